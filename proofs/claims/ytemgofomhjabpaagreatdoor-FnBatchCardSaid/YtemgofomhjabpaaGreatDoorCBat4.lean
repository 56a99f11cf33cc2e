/- Contracts and plain lemmas of this seat (part 4), merged by wip/merge2.py; what is proved stands in the claim's last text. -/
import Derived.Test.YtemgofomhjabpaaGreatDoorCBat1
import Derived.Test.YtemgofomhjabpaaGreatDoorCBat2
import Derived.Test.YtemgofomhjabpaaGreatDoorCBat3
import Derived.Laws.BitsAllLaws
import Derived.Deep.RegionHeld
import Derived.Shelf.Strings.Builder1
import Derived.Shelf.Strings.Builder2
import Derived.Shelf.Strings.OnBuilder
import Derived.Shelf.Small.Utf8
import Derived.Shelf.Strconv.Atoi
import Derived.Shelf.Strconv.AtoiErrFast
import Derived.Shelf.Strconv.ParseIntEmpty
import Derived.Shelf.Strconv.AtoiFail
import Derived.Shelf.LaysM
import Derived.Shelf.Strconv.Clone
import Derived.Shelf.Strconv.SyntaxError
import Derived.Shelf.LaysC
import Derived.Shelf.Strconv.ToError
import Derived.Shelf.Strconv.AtoiErr
import Derived.Shelf.Unicode.Latin
import Derived.Shelf.Unicode.DecodeSlow
import Derived.Shelf.Unicode.CaseLookup
import Derived.Shelf.Unicode.CaseConvert
import Derived.Shelf.Unicode.CaseTo
import Derived.Shelf.Unicode.CaseLaid
import Derived.Test.YtemgofomhjabpaaGreatDoorProg
import Derived.Barred
namespace Go.Proofs.YtemgofomhjabpaaGreatDoor.Core
open Go.RowKit Go.Proofs.YtemgofomhjabpaaGreatDoorW.PrintWords
def leapI (y : Int) : Bool := decide (y % 4 = 0) && (decide (y % 100 ≠ 0) || decide (y % 400 = 0))
def daysI (y mo : Int) : Int := if mo = 2 ∧ leapI y = true then 29 else rd [0, 31, 28, 31, 30, 31, 30, 31, 31, 30, 31, 30, 31] mo
structure DateOk (y mo d : Int) : Prop where
 y0 : 1989 ≤ y
 y1 : y ≤ 2092
 m0 : 1 ≤ mo
 m1 : mo ≤ 12
 d0 : 1 ≤ d
 d1 : d ≤ daysI y mo
def jfI (mo : Int) : Int := (14 - mo) / 12
def aydI (mo d : Int) : Int := (979 * (mo + 12 * jfI mo) - 2919) / 32 + d - 1
def absD (y mo d : Int) : Int := 146097 * ((y - jfI mo + 292277022400) / 100) / 4 + 1461 * ((y - jfI mo + 292277022400) % 100) / 4 + aydI mo d
theorem u64_id {x : Int} (h0 : 0 ≤ x) (h1 : x < 18446744073709551616) : IntKind.u64.wrap x = x := by
 have : IntKind.u64.wrap x = x % 18446744073709551616 := rfl
 omega
theorem months {mo : Int} (h0 : 1 ≤ mo) (h1 : mo ≤ 12) : mo = 1 ∨ mo = 2 ∨ mo = 3 ∨ mo = 4 ∨ mo = 5 ∨ mo = 6 ∨ mo = 7 ∨ mo = 8 ∨ mo = 9 ∨ mo = 10 ∨ mo = 11 ∨ mo = 12 := by omega
theorem dateToAbs_eq (y mo d : Int) (y0 : 1989 ≤ y) (y1 : y ≤ 2092) (m0 : 1 ≤ mo) (m1 : mo ≤ 12) (d0 : 1 ≤ d) (d1 : d ≤ 32) : gotime_dateToAbsDays.f y mo d = some (absD y mo d) := by
 unfold gotime_dateToAbsDays.f absD aydI jfI
 rcases months m0 m1 with h | h | h | h | h | h | h | h | h | h | h | h <;> subst h <;>
  (first | rw [if_pos (by decide)] | rw [if_neg (by decide)]) <;>
  simp (disch := omega) only [u64_id, wrap64_id, Int.tdiv_eq_ediv_of_nonneg, Int.tmod_eq_emod_of_nonneg, Int.emod_eq_of_lt, Int.reduceSub, Int.reduceDiv, Int.reduceAdd, Int.reduceMul, Int.sub_zero] <;>
  exact congrArg some (by omega)
theorem or3 (n : Int) (h0 : 0 ≤ n) (h1 : n < 1000000) : Go.bits .or .u32 n 3 = n / 4 * 4 + 3 := by
 obtain ⟨m, rfl⟩ : ∃ m : Nat, n = m := ⟨n.toNat, by omega⟩
 have e := u32_or_nat m 3 (by omega) (by omega)
 rw [show ((3 : Nat) : Int) = 3 from rfl] at e
 rw [e]
 have e2 : m ||| 3 = m / 4 * 4 + 3 := by
  have h4 : 2 ^ 2 * (m / 4) + m % 4 = 2 ^ 2 * (m / 4) ||| m % 4 := Nat.two_pow_add_eq_or_of_lt (by omega) _
  have h5 : 2 ^ 2 * (m / 4) + 3 = 2 ^ 2 * (m / 4) ||| 3 := Nat.two_pow_add_eq_or_of_lt (by omega) _
  have hr : m % 4 ||| 3 = 3 := by
   have : m % 4 < 4 := Nat.mod_lt _ (by omega)
   rcases (by omega : m % 4 = 0 ∨ m % 4 = 1 ∨ m % 4 = 2 ∨ m % 4 = 3) with h | h | h | h <;> rw [h] <;> rfl
  have hm : m = 2 ^ 2 * (m / 4) + m % 4 := by omega
  calc m ||| 3 = (2 ^ 2 * (m / 4) ||| m % 4) ||| 3 := by rw [← h4, ← hm]
   _ = 2 ^ 2 * (m / 4) ||| (m % 4 ||| 3) := Nat.or_assoc _ _ _
   _ = m / 4 * 4 + 3 := by rw [hr, ← h5]; omega
 omega
theorem and16 (n : Int) (h0 : 0 ≤ n) (h1 : n < 4294967296) : Go.bits .and .u32 n 65535 = n % 65536 := by
 obtain ⟨m, rfl⟩ : ∃ m : Nat, n = m := ⟨n.toNat, by omega⟩
 have e := u32_and_nat m 65535 (by omega) (by omega)
 rw [show ((65535 : Nat) : Int) = 65535 from rfl] at e
 rw [e]
 have e2 : m &&& 65535 = m % 65536 := Nat.and_two_pow_sub_one_eq_mod m 16
 omega
theorem leap_spec (y : Int) : leapI y = true ↔ y % 4 = 0 ∧ (y % 100 ≠ 0 ∨ y % 400 = 0) := by
 unfold leapI
 simp
theorem daysI_cases (y mo : Int) (m0 : 1 ≤ mo) (m1 : mo ≤ 12) : daysI y mo ≤ 31 ∧ 28 ≤ daysI y mo ∧ (mo = 2 → daysI y mo = if leapI y = true then 29 else 28) ∧ (mo = 4 ∨ mo = 6 ∨ mo = 9 ∨ mo = 11 → daysI y mo = 30) ∧ (mo = 1 ∨ mo = 3 ∨ mo = 5 ∨ mo = 7 ∨ mo = 8 ∨ mo = 10 ∨ mo = 12 → daysI y mo = 31) := by
 unfold daysI
 rcases months m0 m1 with h | h | h | h | h | h | h | h | h | h | h | h <;> subst h <;> cases hl : leapI y <;> simp [rd]
theorem split_at (C cy ayd : Int) (hC : C = 2922770243 ∨ (C = 2922770244 ∧ cy ≤ 95)) (c0 : 0 ≤ cy) (c1 : cy ≤ 99) (a0 : 0 ≤ ayd) (a1 : ayd ≤ 365) (a2 : ayd = 365 → cy % 4 = 3) :
  gotime_absDays_split.f (146097 * C / 4 + 1461 * cy / 4 + ayd) = some (C, cy, ayd) := by
 unfold gotime_absDays_split.f bits_Mul32.f
 have e1 : IntKind.u64.wrap (IntKind.u64.wrap (4 * (146097 * C / 4 + 1461 * cy / 4 + ayd)) + 3) = 4 * (146097 * C / 4 + 1461 * cy / 4 + ayd) + 3 := by
  rw [u64_id (x := 4 * (146097 * C / 4 + 1461 * cy / 4 + ayd)) (by omega) (by omega), u64_id (by omega) (by omega)]
 rw [e1, Int.tdiv_eq_ediv_of_nonneg (by omega), Int.tmod_eq_emod_of_nonneg (by omega)]
 have e2 : (4 * (146097 * C / 4 + 1461 * cy / 4 + ayd) + 3) / 146097 = C := by rcases hC with h | ⟨h, h95⟩ <;> subst h <;> omega
 have e3 : (4 * (146097 * C / 4 + 1461 * cy / 4 + ayd) + 3) % 146097 / 4 * 4 + 3 = 1461 * cy - cy % 4 + 4 * ayd + 3 := by rcases hC with h | ⟨h, h95⟩ <;> subst h <;> omega
 have e4 : (4 * (146097 * C / 4 + 1461 * cy / 4 + ayd) + 3) % 146097 % 4294967296 = (4 * (146097 * C / 4 + 1461 * cy / 4 + ayd) + 3) % 146097 := by omega
 rw [e2, e4, or3 _ (by omega) (by omega), e3]
 have b1 : 0 ≤ 1461 * cy - cy % 4 + 4 * ayd + 3 := by omega
 have b2 : 1461 * cy - cy % 4 + 4 * ayd + 3 < 146200 := by omega
 rw [u64_id (x := 2939745) (by omega) (by omega), u64_id (x := 1461 * cy - cy % 4 + 4 * ayd + 3) b1 (by omega), u64_id (x := 2939745 * (1461 * cy - cy % 4 + 4 * ayd + 3)) (by omega) (by omega), u64_id (x := C) (by omega) (by omega)]
 simp only [Option.bind_some]
 obtain ⟨r, hr⟩ : ∃ r : Int, r = 4 * ayd + 3 - cy % 4 := ⟨_, rfl⟩
 have hr0 : 0 ≤ r := by omega
 have hr1 : r ≤ 1460 := by omega
 have e5 : 2939745 * (1461 * cy - cy % 4 + 4 * ayd + 3) = 4294967296 * cy + (149 * cy + 2939745 * r) := by subst hr; omega
 rw [e5]
 obtain ⟨X, hX⟩ : ∃ X : Int, X = 149 * cy + 2939745 * r := ⟨_, rfl⟩
 have hX0 : 0 ≤ X := by omega
 have hX1 : X < 4294967296 := by omega
 have e9 : X / 2939745 = r := by omega
 rw [← hX]
 clear e1 e2 e3 e4 e5 b1 b2 hX
 have e6 : (4294967296 * cy + X) / 4294967296 = cy := by omega
 have e7 : (4294967296 * cy + X) % 4294967296 = X := by omega
 rw [e6, e7, Int.emod_eq_of_lt (by omega) (by omega), wrap64_id (by omega) (by omega), Int.tdiv_eq_ediv_of_nonneg (by omega), e9]
 have e8 : r % 4294967296 / 4 = ayd := by omega
 rw [e8]
theorem jf_01 {mo : Int} (h0 : 1 ≤ mo) (h1 : mo ≤ 12) : 0 ≤ jfI mo ∧ jfI mo ≤ 1 := by unfold jfI; omega
theorem ayd_range {y mo d : Int} (h : DateOk y mo d) : 0 ≤ aydI mo d ∧ aydI mo d ≤ 365 ∧ (aydI mo d = 365 → (y - jfI mo + 292277022400) % 100 % 4 = 3) := by
 obtain ⟨y0, y1, m0, m1, d0, d1⟩ := h
 obtain ⟨q1, q2, q3, q4, q5⟩ := daysI_cases y mo m0 m1
 unfold aydI jfI
 rcases months m0 m1 with h | h | h | h | h | h | h | h | h | h | h | h
 ·have := q5 (by omega); subst h; refine ⟨by omega, by omega, by omega⟩
 ·have := q3 h
  subst h
  cases hl : leapI y with
  | true =>
   have hlp := (leap_spec y).1 hl
   rw [hl] at this
   simp at this
   refine ⟨by omega, by omega, by omega⟩
  | false =>
   rw [hl] at this
   simp at this
   refine ⟨by omega, by omega, by omega⟩
 ·have := q5 (by omega); subst h; refine ⟨by omega, by omega, by omega⟩
 ·have := q4 (by omega); subst h; refine ⟨by omega, by omega, by omega⟩
 ·have := q5 (by omega); subst h; refine ⟨by omega, by omega, by omega⟩
 ·have := q4 (by omega); subst h; refine ⟨by omega, by omega, by omega⟩
 ·have := q5 (by omega); subst h; refine ⟨by omega, by omega, by omega⟩
 ·have := q5 (by omega); subst h; refine ⟨by omega, by omega, by omega⟩
 ·have := q4 (by omega); subst h; refine ⟨by omega, by omega, by omega⟩
 ·have := q5 (by omega); subst h; refine ⟨by omega, by omega, by omega⟩
 ·have := q4 (by omega); subst h; refine ⟨by omega, by omega, by omega⟩
 ·have := q5 (by omega); subst h; refine ⟨by omega, by omega, by omega⟩
theorem split_date {y mo d : Int} (h : DateOk y mo d) : gotime_absDays_split.f (absD y mo d) = some ((y - jfI mo + 292277022400) / 100, (y - jfI mo + 292277022400) % 100, aydI mo d) := by
 obtain ⟨r1, r2, r3⟩ := ayd_range h
 have hj := jf_01 h.m0 h.m1
 have := h.y0
 have := h.y1
 exact split_at _ _ _ (by omega) (by omega) (by omega) r1 r2 r3
theorem aydSplit {y mo d : Int} (h : DateOk y mo d) : gotime_absYday_split.f (aydI mo d) = some (mo + 12 * jfI mo, d) ∧ gotime_absYday_janFeb.f (aydI mo d) = some (jfI mo) ∧ gotime_absMonth_month.f (mo + 12 * jfI mo) (jfI mo) = some mo := by
 obtain ⟨y0, y1, m0, m1, d0, d1⟩ := h
 obtain ⟨q1, q2, q3, q4, q5⟩ := daysI_cases y mo m0 m1
 have key : ∀ A a : Int, 0 ≤ A → A ≤ 366 → (2141 * A + 197913) / 65536 = a → 0 ≤ (2141 * A + 197913) % 65536 / 2141 → gotime_absYday_split.f A = some (a, 1 + (2141 * A + 197913) % 65536 / 2141) := by
  intro A a h0 h1 ha h2
  unfold gotime_absYday_split.f
  have e1 : ((2141 * (A % 4294967296)) % 4294967296 + 197913) % 4294967296 = 2141 * A + 197913 := by omega
  rw [e1, and16 _ (by omega) (by omega), Int.tdiv_eq_ediv_of_nonneg (by omega), ha]
  have e2 : (2141 * A + 197913) % 65536 / 2141 % 4294967296 = (2141 * A + 197913) % 65536 / 2141 := by omega
  rw [e2]
 have fin : ∀ (c : Int), aydI mo d = c + d - 1 → 0 ≤ c + d - 1 → c + d - 1 ≤ 366 → (2141 * (c + d - 1) + 197913) / 65536 = mo + 12 * jfI mo → (2141 * (c + d - 1) + 197913) % 65536 / 2141 = d - 1 →
   gotime_absYday_split.f (aydI mo d) = some (mo + 12 * jfI mo, d) := by
  intro c hc b0 b1 e1 e2
  rw [hc, key (c + d - 1) _ b0 b1 e1 (by omega), e2]
  congr 2
  omega
 have jf : ∀ (c : Int), aydI mo d = c + d - 1 → (c + d - 1 ≥ 306 ↔ jfI mo = 1) → (jfI mo = 0 ∨ jfI mo = 1) → gotime_absYday_janFeb.f (aydI mo d) = some (jfI mo) := by
  intro c hc hi h01
  rw [hc]
  unfold gotime_absYday_janFeb.f
  by_cases hg : c + d - 1 ≥ 306
  ·rw [if_pos hg, hi.1 hg]
  ·rw [if_neg hg]
   rcases h01 with h | h
   ·rw [h]
   ·exact absurd (hi.2 h) hg
 have mon : gotime_absMonth_month.f (mo + 12 * jfI mo) (jfI mo) = some mo := by
  have hj := jf_01 m0 m1
  unfold gotime_absMonth_month.f
  rw [wrap64_id (i := jfI mo * 12) (by omega) (by omega), wrap64_id (by omega) (by omega)]
  congr 1
  omega
 have all : ∀ (m : Int), mo = m → ∀ (c j n : Int), jfI m = j → (979 * (m + 12 * j) - 2919) / 32 = c → daysI y mo ≤ n → (0 ≤ c) → (j = 0 ∧ c + n ≤ 306 ∨ j = 1 ∧ 306 ≤ c ∧ c + n ≤ 367) →
   (∀ d : Int, 1 ≤ d → d ≤ n → (2141 * (c + d - 1) + 197913) / 65536 = m + 12 * j ∧ (2141 * (c + d - 1) + 197913) % 65536 / 2141 = d - 1) →
   gotime_absYday_split.f (aydI mo d) = some (mo + 12 * jfI mo, d) ∧ gotime_absYday_janFeb.f (aydI mo d) = some (jfI mo) ∧ gotime_absMonth_month.f (mo + 12 * jfI mo) (jfI mo) = some mo := by
  intro m hm c j n hj hc hn c0 hjn hd
  subst hm
  have ha : aydI mo d = c + d - 1 := by unfold aydI; rw [hj, hc]
  obtain ⟨g1, g2⟩ := hd d d0 (by omega)
  refine ⟨fin c ha (by omega) (by omega) (by rw [hj]; exact g1) g2, jf c ha (by rw [hj]; omega) (by rw [hj]; omega), mon⟩
 rcases months m0 m1 with h | h | h | h | h | h | h | h | h | h | h | h
 ·exact all 1 h 306 1 31 rfl rfl (by have := q5 (by omega); omega) (by omega) (by omega) (fun d _ _ => by omega)
 ·exact all 2 h 337 1 29 rfl rfl (by have := q3 h; split at this <;> omega) (by omega) (by omega) (fun d _ _ => by omega)
 ·exact all 3 h 0 0 31 rfl rfl (by have := q5 (by omega); omega) (by omega) (by omega) (fun d _ _ => by omega)
 ·exact all 4 h 31 0 30 rfl rfl (by have := q4 (by omega); omega) (by omega) (by omega) (fun d _ _ => by omega)
 ·exact all 5 h 61 0 31 rfl rfl (by have := q5 (by omega); omega) (by omega) (by omega) (fun d _ _ => by omega)
 ·exact all 6 h 92 0 30 rfl rfl (by have := q4 (by omega); omega) (by omega) (by omega) (fun d _ _ => by omega)
 ·exact all 7 h 122 0 31 rfl rfl (by have := q5 (by omega); omega) (by omega) (by omega) (fun d _ _ => by omega)
 ·exact all 8 h 153 0 31 rfl rfl (by have := q5 (by omega); omega) (by omega) (by omega) (fun d _ _ => by omega)
 ·exact all 9 h 184 0 30 rfl rfl (by have := q4 (by omega); omega) (by omega) (by omega) (fun d _ _ => by omega)
 ·exact all 10 h 214 0 31 rfl rfl (by have := q5 (by omega); omega) (by omega) (by omega) (fun d _ _ => by omega)
 ·exact all 11 h 245 0 30 rfl rfl (by have := q4 (by omega); omega) (by omega) (by omega) (fun d _ _ => by omega)
 ·exact all 12 h 275 0 31 rfl rfl (by have := q5 (by omega); omega) (by omega) (by omega) (fun d _ _ => by omega)
theorem centuryYear {y mo d : Int} (h : DateOk y mo d) : gotime_absCentury_year.f ((y - jfI mo + 292277022400) / 100) ((y - jfI mo + 292277022400) % 100) (jfI mo) = some y := by
 have hj := jf_01 h.m0 h.m1
 have := h.y0
 have := h.y1
 unfold gotime_absCentury_year.f
 have e : IntKind.u64.wrap (IntKind.u64.wrap ((y - jfI mo + 292277022400) / 100 * 100) - 292277022400) = (IntKind.u64.wrap ((y - jfI mo + 292277022400) / 100 * 100) - 292277022400) % 18446744073709551616 := rfl
 rw [e, u64_id (by omega) (by omega)]
 have e2 : ((y - jfI mo + 292277022400) / 100 * 100 - 292277022400) % 18446744073709551616 = (y - jfI mo + 292277022400) / 100 * 100 - 292277022400 := by omega
 rw [e2, wrap64_id (i := (y - jfI mo + 292277022400) / 100 * 100 - 292277022400) (by omega) (by omega), wrap64_id (i := _ + (y - jfI mo + 292277022400) % 100) (by omega) (by omega), wrap64_id (by omega) (by omega)]
 congr 1
 omega
def cumI (y mo : Int) : Int := rd [0, 0, 31, 59, 90, 120, 151, 181, 212, 243, 273, 304, 334] mo + (if leapI y = true ∧ 2 < mo then 1 else 0)
def dayN (y mo d : Int) : Int := (y - 1) * 365 + (y - 1) / 4 - (y - 1) / 100 + (y - 1) / 400 + d + cumI y mo
def wdI (y mo d : Int) : Int := dayN y mo d % 7
theorem absD_table : ∀ i : Fin 104, ∀ m : Fin 12, absD (1989 + (i.val : Int)) (m.val + 1) 1 = dayN (1989 + (i.val : Int)) (m.val + 1) 1 + 106751990354237 := by decide +kernel
theorem absD_dayN (y mo d : Int) (y0 : 1989 ≤ y) (y1 : y ≤ 2092) (m0 : 1 ≤ mo) (m1 : mo ≤ 12) : absD y mo d = dayN y mo d + 106751990354237 := by
 have h := absD_table ⟨(y - 1989).toNat, by omega⟩ ⟨(mo - 1).toNat, by omega⟩
 simp only at h
 rw [show (1989 : Int) + ((y - 1989).toNat : Int) = y by omega, show (((mo - 1).toNat : Int) + 1) = mo by omega] at h
 have e1 : absD y mo d = absD y mo 1 + (d - 1) := by unfold absD aydI; omega
 have e2 : dayN y mo d = dayN y mo 1 + (d - 1) := by unfold dayN; omega
 rw [e1, e2, h]
 omega
theorem cumI_range (y mo : Int) (m0 : 1 ≤ mo) (m1 : mo ≤ 12) : 0 ≤ cumI y mo ∧ cumI y mo + daysI y mo ≤ 366 := by
 rcases months m0 m1 with h | h | h | h | h | h | h | h | h | h | h | h <;> subst h <;> cases hl : leapI y <;> simp [cumI, daysI, hl, rd]
theorem absD_range {y mo d : Int} (h : DateOk y mo d) : 106751991080340 ≤ absD y mo d ∧ absD y mo d ≤ 106751991118400 := by
 have e := absD_dayN y mo d h.y0 h.y1 h.m0 h.m1
 obtain ⟨c0, c1⟩ := cumI_range y mo h.m0 h.m1
 have := h.y0
 have := h.y1
 have := h.d0
 have := h.d1
 unfold dayN at e
 omega
theorem weekday_date {y mo d : Int} (h : DateOk y mo d) : gotime_absDays_weekday.f (absD y mo d) = some (wdI y mo d) := by
 have hr := absD_range h
 have e := absD_dayN y mo d h.y0 h.y1 h.m0 h.m1
 unfold gotime_absDays_weekday.f wdI
 rw [u64_id (by omega) (by omega), Int.tmod_eq_emod_of_nonneg (by omega), wrap64_id (by omega) (by omega), e]
 congr 1
 omega
def extOf (y mo d h mi s : Int) : Int := absD y mo d * 86400 + (h * 3600 + mi * 60 + s) - 9223371966606163200
structure ClockOk (h mi s : Int) : Prop where
 h0 : 0 ≤ h
 h1 : h ≤ 23
 m0 : 0 ≤ mi
 m1 : mi ≤ 59
 s0 : 0 ≤ s
 s1 : s ≤ 59
theorem ext_range {y mo d h mi s : Int} (hd : DateOk y mo d) (hc : ClockOk h mi s) : 62700000000 ≤ extOf y mo d h mi s ∧ extOf y mo d h mi s ≤ 66100000000 := by
 have := absD_range hd
 obtain ⟨h0, h1, m0, m1, s0, s1⟩ := hc
 unfold extOf
 omega
theorem days_ext {y mo d h mi s : Int} (hd : DateOk y mo d) (hc : ClockOk h mi s) : gotime_absSeconds_days.f (extOf y mo d h mi s + 9223371966606163200) = some (absD y mo d) := by
 have := absD_range hd
 obtain ⟨h0, h1, m0, m1, s0, s1⟩ := hc
 unfold gotime_absSeconds_days.f extOf
 have e : absD y mo d * 86400 + (h * 3600 + mi * 60 + s) - 9223371966606163200 + 9223371966606163200 = absD y mo d * 86400 + (h * 3600 + mi * 60 + s) := by omega
 rw [e, Int.tdiv_eq_ediv_of_nonneg (by omega)]
 have e2 : (absD y mo d * 86400 + (h * 3600 + mi * 60 + s)) / 86400 = absD y mo d := by omega
 rw [e2, u64_id (by omega) (by omega)]
end Go.Proofs.YtemgofomhjabpaaGreatDoor.Core
namespace Go.Proofs.YtemgofomhjabpaaGreatDoor.Core
open Go.RowKit Go.Proofs.YtemgofomhjabpaaGreatDoorW.PrintWords Go.Proofs.YtemgofomhjabpaaGreatDoorW.PrintLast Go.Proofs.YtemgofomhjabpaaGreatDoorW.PrintMore
attribute [local go_sem] max2_int min2_int max_two min_two max_three min_three max_four min_four   -- for this text's walks alone
set_option linter.unusedVariables false
set_option linter.unusedSimpArgs false
end Go.Proofs.YtemgofomhjabpaaGreatDoor.Core
namespace Go.Proofs.YtemgofomhjabpaaGreatDoor.Core
open Go.RowKit Go.Proofs.YtemgofomhjabpaaGreatDoorW.PrintWords
section
variable (x D C cy a j y mo d : Int) (w : World) (hx0 : 62700000000 ≤ x) (hx1 : x ≤ 66100000000)
include hx0 hx1
theorem year_w (h1 : Aside0 (gotime_absSeconds_days.f (x + 9223371966606163200) = some D)) (h2 : Aside0 (gotime_absDays_split.f D = some (C, cy, a))) (h3 : Aside0 (gotime_absYday_janFeb.f a = some j)) (h4 : Aside0 (gotime_absCentury_year.f C cy j = some y)) :
  Calls Tryz.prog 118 #[.agg #[.int .u64 0, .int .i64 x, .pointer none]] w fun e w' => e = .returned (.int .i64 y) ∧ Below w.heap.size w w' := by
 go_enter Tryz.func118, Tryz.ntmps118
 go_wp2_with (first | (go_at_call 124; refine (absSec_any x _ hx0 hx1).mono ?_; rintro e w1 ⟨rfl, hb⟩) | (go_at_call 125; refine (gotime_absSeconds_days.calls _ D _ h1.out).mono ?_; rintro e w2 ⟨rfl, ⟨n2, rfl⟩⟩) | (go_at_call 126; refine (gotime_absDays_split.calls _ C cy a _ h2.out).mono ?_; rintro e w3 ⟨rfl, ⟨n3, rfl⟩⟩) | (go_at_call 137; refine (gotime_absYday_janFeb.calls _ j _ h3.out).mono ?_; rintro e w4 ⟨rfl, ⟨n4, rfl⟩⟩) | (go_at_call 138; refine (gotime_absCentury_year.calls _ _ _ y _ h4.out).mono ?_; rintro e w5 ⟨rfl, ⟨n5, rfl⟩⟩))
 go_ret
 exact ⟨rfl, by repeat (first | exact hb | exact below_then (below_alloc (Below.refl _ _) _) (by simp) hb | apply pw_below_drewN)⟩
theorem month_w (h1 : Aside0 (gotime_absSeconds_days.f (x + 9223371966606163200) = some D)) (h2 : Aside0 (gotime_absDays_split.f D = some (C, cy, a))) (h3 : Aside0 (gotime_absYday_split.f a = some (j, d))) (h5 : Aside0 (gotime_absYday_janFeb.f a = some y)) (h4 : Aside0 (gotime_absMonth_month.f j y = some mo)) :
  Calls Tryz.prog 119 #[.agg #[.int .u64 0, .int .i64 x, .pointer none]] w fun e w' => e = .returned (.int .i64 mo) ∧ Below w.heap.size w w' := by
 go_enter Tryz.func119, Tryz.ntmps119
 go_wp2_with (first | (go_at_call 124; refine (absSec_any x _ hx0 hx1).mono ?_; rintro e w1 ⟨rfl, hb⟩) | (go_at_call 125; refine (gotime_absSeconds_days.calls _ D _ h1.out).mono ?_; rintro e w2 ⟨rfl, ⟨n2, rfl⟩⟩) | (go_at_call 126; refine (gotime_absDays_split.calls _ C cy a _ h2.out).mono ?_; rintro e w3 ⟨rfl, ⟨n3, rfl⟩⟩) | (go_at_call 127; refine (gotime_absYday_split.calls _ j d _ h3.out).mono ?_; rintro e w4 ⟨rfl, ⟨n4, rfl⟩⟩) | (go_at_call 137; refine (gotime_absYday_janFeb.calls _ y _ h5.out).mono ?_; rintro e w5 ⟨rfl, ⟨n5, rfl⟩⟩) | (go_at_call 139; refine (gotime_absMonth_month.calls _ _ mo _ h4.out).mono ?_; rintro e w6 ⟨rfl, ⟨n6, rfl⟩⟩))
 go_ret
 exact ⟨rfl, by repeat (first | exact hb | exact below_then (below_alloc (Below.refl _ _) _) (by simp) hb | apply pw_below_drewN)⟩
theorem day_w (h1 : Aside0 (gotime_absSeconds_days.f (x + 9223371966606163200) = some D)) (h2 : Aside0 (gotime_absDays_split.f D = some (C, cy, a))) (h3 : Aside0 (gotime_absYday_split.f a = some (j, d))) :
  Calls Tryz.prog 109 #[.agg #[.int .u64 0, .int .i64 x, .pointer none]] w fun e w' => e = .returned (.int .i64 d) ∧ Below w.heap.size w w' := by
 go_enter Tryz.func109, Tryz.ntmps109
 go_wp2_with (first | (go_at_call 124; refine (absSec_any x _ hx0 hx1).mono ?_; rintro e w1 ⟨rfl, hb⟩) | (go_at_call 125; refine (gotime_absSeconds_days.calls _ D _ h1.out).mono ?_; rintro e w2 ⟨rfl, ⟨n2, rfl⟩⟩) | (go_at_call 126; refine (gotime_absDays_split.calls _ C cy a _ h2.out).mono ?_; rintro e w3 ⟨rfl, ⟨n3, rfl⟩⟩) | (go_at_call 127; refine (gotime_absYday_split.calls _ j d _ h3.out).mono ?_; rintro e w4 ⟨rfl, ⟨n4, rfl⟩⟩))
 go_ret
 exact ⟨rfl, by repeat (first | exact hb | exact below_then (below_alloc (Below.refl _ _) _) (by simp) hb | apply pw_below_drewN)⟩
theorem weekday_w (h1 : Aside0 (gotime_absSeconds_days.f (x + 9223371966606163200) = some D)) (h2 : Aside0 (gotime_absDays_weekday.f D = some d)) :
  Calls Tryz.prog 131 #[.agg #[.int .u64 0, .int .i64 x, .pointer none]] w fun e w' => e = .returned (.int .i64 d) ∧ Below w.heap.size w w' := by
 go_enter Tryz.func131, Tryz.ntmps131
 go_wp2_with (first | (go_at_call 124; refine (absSec_any x _ hx0 hx1).mono ?_; rintro e w1 ⟨rfl, hb⟩) | (go_at_call 125; refine (gotime_absSeconds_days.calls _ D _ h1.out).mono ?_; rintro e w2 ⟨rfl, ⟨n2, rfl⟩⟩) | (go_at_call 146; refine (gotime_absDays_weekday.calls _ d _ h2.out).mono ?_; rintro e w3 ⟨rfl, ⟨n3, rfl⟩⟩))
 go_ret
 exact ⟨rfl, by repeat (first | exact hb | exact below_then (below_alloc (Below.refl _ _) _) (by simp) hb | apply pw_below_drewN)⟩
theorem hour_w : Calls Tryz.prog 130 #[.agg #[.int .u64 0, .int .i64 x, .pointer none]] w fun e w' => e = .returned (.int .i64 ((x + 9223371966606163200) % 86400 / 3600)) ∧ Below w.heap.size w w' := by
 go_enter Tryz.func130, Tryz.ntmps130
 go_wp2_with (go_at_call 124; refine (absSec_any x _ hx0 hx1).mono ?_; rintro e w1 ⟨rfl, hb⟩)
 go_ret
 exact ⟨ret_i64 (by first | rfl | omega), by repeat (first | exact hb | exact below_then (below_alloc (Below.refl _ _) _) (by simp) hb | apply pw_below_drewN)⟩
theorem minute_w : Calls Tryz.prog 129 #[.agg #[.int .u64 0, .int .i64 x, .pointer none]] w fun e w' => e = .returned (.int .i64 ((x + 9223371966606163200) % 3600 / 60)) ∧ Below w.heap.size w w' := by
 go_enter Tryz.func129, Tryz.ntmps129
 go_wp2_with (go_at_call 124; refine (absSec_any x _ hx0 hx1).mono ?_; rintro e w1 ⟨rfl, hb⟩)
 go_ret
 exact ⟨ret_i64 (by first | rfl | omega), by repeat (first | exact hb | exact below_then (below_alloc (Below.refl _ _) _) (by simp) hb | apply pw_below_drewN)⟩
theorem second_w : Calls Tryz.prog 128 #[.agg #[.int .u64 0, .int .i64 x, .pointer none]] w fun e w' => e = .returned (.int .i64 ((x + 9223371966606163200) % 60)) ∧ Below w.heap.size w w' := by
 go_enter Tryz.func128, Tryz.ntmps128
 go_wp2_with (go_at_call 124; refine (absSec_any x _ hx0 hx1).mono ?_; rintro e w1 ⟨rfl, hb⟩)
 go_ret
 exact ⟨ret_i64 (by first | rfl | omega), by repeat (first | exact hb | exact below_then (below_alloc (Below.refl _ _) _) (by simp) hb | apply pw_below_drewN)⟩
end
theorem norm_in (hi lo base : Int) (w : World) (h0 : 0 ≤ lo) (h1 : lo < base) :
  Calls Tryz.prog 51 #[.int .i64 hi, .int .i64 lo, .int .i64 base] w fun e w' => e = .returned (.tuple #[.int .i64 hi, .int .i64 lo]) ∧ w = w' := by
 have e1 : decide (lo < 0) = false := decide_eq_false (by omega)
 have e2 : decide (base ≤ lo) = false := decide_eq_false (by omega)
 go_enter Tryz.func51, Tryz.ntmps51
 go_wp2
 go_ret2
 exact ⟨rfl, rfl⟩
theorem dta (y mo d D a b c : Int) (w : World) (hD : Aside0 (gotime_dateToAbsDays.f y mo d = some D)) (ha : a = y) (hb : b = mo) (hc : c = d) :
  Calls Tryz.prog 52 #[.int .i64 a, .int .i64 b, .int .i64 c] w fun e w' => e = .returned (.int .u64 D) ∧ Drawn0 w w' := by
 subst ha; subst hb; subst hc
 exact gotime_dateToAbsDays.calls _ _ _ D _ hD.out
theorem setLoc_after (g b : Nat) (x : Int) (w : World) (hg : w.heap[g]? = some (.cells #[.int .u64 0, .int .i64 x, .pointer none] 79)) (hb : w.cell? ⟨b, 0, none⟩ = some (.bool true)) :
  Calls Tryz.prog 55 #[.pointer (some ⟨g, 0, none⟩), .pointer (some ⟨b, 0, none⟩)] w fun e w' => e = .returned (.tuple #[]) ∧ w.setCell ⟨g, 2, none⟩ (.pointer none) = w' := setLoc_any g b x w hg hb
theorem ret_time {a b : Int} (h : a = b) : Ending.returned (.agg #[.int .u64 0, .int .i64 a, .pointer none]) = .returned (.agg #[.int .u64 0, .int .i64 b, .pointer none]) := by rw [h]
theorem cell_after {w w1 : World} {a : Addr} {v : Value} (h : Below w.heap.size w w1) (hc : w.cell? a = some v) : w1.cell? a = some v := pw_cell_below h hc
theorem after_tm {w w4 : World} {n : Nat} (h : Below ((w.alloc (.cells #[.int .u64 0, .int .i64 0, .pointer none] 79)).drewN n).heap.size ((w.alloc (.cells #[.int .u64 0, .int .i64 0, .pointer none] 79)).drewN n) w4) :
  w4.heap[w.heap.size]? = some (.cells #[.int .u64 0, .int .i64 0, .pointer none] 79) ∧ w.heap.size < w4.heap.size ∧ Below w.heap.size w w4 := by
 have hs : w.heap.size < ((w.alloc (.cells #[.int .u64 0, .int .i64 0, .pointer none] 79)).drewN n).heap.size := by
  show w.heap.size < (w.alloc _).heap.size; simp
 have hb : Below w.heap.size w ((w.alloc (.cells #[.int .u64 0, .int .i64 0, .pointer none] 79)).drewN n) := below_drewN ((Below.refl _ _).alloc (Nat.le_refl _) _) n
 exact ⟨(h.block w.heap.size hs).trans (heap_alloc_new w _), Nat.lt_of_lt_of_le hs h.size, hb.trans (h.mono (Nat.le_of_lt hs))⟩
theorem set_same {w : World} {a : Addr} {u v : Value} (h : w.cell? a = some u) : (w.setCell a v).cell? a = some v := World.cell?_setCell_same _ _ _ h
theorem set_other {w : World} {a b : Addr} {v : Value} (h : a ≠ b) : (w.setCell a v).cell? b = w.cell? b := World.cell?_setCell_other _ _ _ _ h
theorem res3 {w4 : World} {g : Nat} {x0 x1 x2 a b c : Value} {t : TypeId} (o : Obj) (hA : w4.heap[g]? = some (.cells #[x0, x1, x2] t)) :
  ((((w4.setCell ⟨g, 0, none⟩ a).setCell ⟨g, 1, none⟩ b).setCell ⟨g, 2, none⟩ c).alloc o).cell? ⟨g, 0, none⟩ = some a ∧
  ((((w4.setCell ⟨g, 0, none⟩ a).setCell ⟨g, 1, none⟩ b).setCell ⟨g, 2, none⟩ c).alloc o).cell? ⟨g, 1, none⟩ = some b ∧
  ((((w4.setCell ⟨g, 0, none⟩ a).setCell ⟨g, 1, none⟩ b).setCell ⟨g, 2, none⟩ c).alloc o).cell? ⟨g, 2, none⟩ = some c := by
 have h0 : w4.cell? ⟨g, 0, none⟩ = some x0 := by simp [World.cell?, hA]
 have h1 : w4.cell? ⟨g, 1, none⟩ = some x1 := by simp [World.cell?, hA]
 have h2 : w4.cell? ⟨g, 2, none⟩ = some x2 := by simp [World.cell?, hA]
 have k0 : (w4.setCell ⟨g, 0, none⟩ a).cell? ⟨g, 0, none⟩ = some a := set_same h0
 have k1 : ((w4.setCell ⟨g, 0, none⟩ a).setCell ⟨g, 1, none⟩ b).cell? ⟨g, 0, none⟩ = some a := (set_other (by simp)).trans k0
 have k2 : ((w4.setCell ⟨g, 0, none⟩ a).setCell ⟨g, 1, none⟩ b).cell? ⟨g, 1, none⟩ = some b := set_same ((set_other (by simp)).trans h1)
 have j0 := (set_other (v := c) (b := ⟨g, 0, none⟩) (a := ⟨g, 2, none⟩) (by simp)).trans k1
 have j1 := (set_other (v := c) (b := ⟨g, 1, none⟩) (a := ⟨g, 2, none⟩) (by simp)).trans k2
 have j2 : (((w4.setCell ⟨g, 0, none⟩ a).setCell ⟨g, 1, none⟩ b).setCell ⟨g, 2, none⟩ c).cell? ⟨g, 2, none⟩ = some c := set_same ((set_other (by simp)).trans ((set_other (by simp)).trans h2))
 exact ⟨cell_after ((Below.refl _ _).alloc (Nat.le_refl _) o) j0, cell_after ((Below.refl _ _).alloc (Nat.le_refl _) o) j1, cell_after ((Below.refl _ _).alloc (Nat.le_refl _) o) j2⟩
set_option maxRecDepth 100000 in
theorem date_w (y mo d h mi s D : Int) (b : Nat) (w : World) (hm0 : 1 ≤ mo) (hm1 : mo ≤ 12) (hh0 : 0 ≤ h) (hh1 : h ≤ 23) (hi0 : 0 ≤ mi) (hi1 : mi ≤ 59) (hs0 : 0 ≤ s) (hs1 : s ≤ 59)
  (hD : Aside0 (gotime_dateToAbsDays.f y mo d = some D)) (hD0 : 106751991080340 ≤ D) (hD1 : D ≤ 106751991118400) (hb0 : w.cell? ⟨b, 0, none⟩ = some (.bool true)) (hb2 : w.cell? ⟨b, 2, none⟩ = some (.slice none 0 0)) :
  Calls Tryz.prog 43 #[.int .i64 y, .int .i64 mo, .int .i64 d, .int .i64 h, .int .i64 mi, .int .i64 s, .int .i64 0, .pointer (some ⟨b, 0, none⟩)] w
   fun e w' => e = .returned (.agg #[.int .u64 0, .int .i64 (D * 86400 + (h * 3600 + mi * 60 + s) + -9223371966606163200), .pointer none]) ∧ Below w.heap.size w w' := by
 have hk : ∀ o n, ((w.alloc o).drewN n).cell? ⟨b, 2, none⟩ = some (.slice none 0 0) := fun o n => cell_after (below_drewN ((Below.refl _ _).alloc (Nat.le_refl _) o) n) hb2
 have hbB := World.block_lt_of_cell? w ⟨b, 0, none⟩ hb0
 go_enter Tryz.func43, Tryz.ntmps43
 go_wp2_with (first | (go_at_call 51; refine (norm_in _ _ _ _ (by omega) (by omega)).mono ?_; rintro e w' ⟨rfl, rfl⟩) | (go_at_call 52; refine (dta y mo d D _ _ _ _ hD (by omega) (by omega) (by omega)).mono ?_; rintro e w2 ⟨rfl, ⟨n2, rfl⟩⟩) | (go_at_call 53; refine (lookup_any b _ _ (hk _ _)).mono ?_; rintro e w3 ⟨rfl, rfl⟩) | (go_at_call 54; refine (unixTime_any _ _ (by omega) (by omega)).mono ?_; rintro e w4 ⟨rfl, hbl⟩; obtain ⟨hA, hsz, hbw⟩ := after_tm hbl; have hc0 := cell_after hbw hb0; have hcA0 : w4.cell? ⟨w.heap.size, 0, none⟩ = some (.int .u64 0) := (by simp [World.cell?, hA]); have hcA1 : w4.cell? ⟨w.heap.size, 1, none⟩ = some (.int .i64 0) := (by simp [World.cell?, hA]); have hcA2 : w4.cell? ⟨w.heap.size, 2, none⟩ = some (.pointer none) := (by simp [World.cell?, hA]); have hfA0 : w4.frozen? ⟨w.heap.size, 0, none⟩ = false := (by simp [World.frozen?, hA]); have hfA1 : w4.frozen? ⟨w.heap.size, 1, none⟩ = false := (by simp [World.frozen?, hA]); have hfA2 : w4.frozen? ⟨w.heap.size, 2, none⟩ = false := (by simp [World.frozen?, hA]); have hne : w.heap.size ≠ w4.heap.size := Nat.ne_of_lt hsz; have hne' : w4.heap.size ≠ w.heap.size := Nat.ne_of_gt hsz) | (go_at_call 55; refine (setLoc_after _ b _ _ (heap_alloc_new _ _) (cell_after ((Below.refl _ _).alloc (Nat.le_refl _) _) hc0)).mono ?_; rintro e w5 ⟨rfl, rfl⟩))
 obtain ⟨r0, r1, r2⟩ := res3 (a := .int .u64 0) (b := .int .i64 (D * 86400 + (h * 3600 + mi * 60 + s) + -9223372028741760000 + 62135596800)) (c := .pointer none) (.cells #[.int .u64 0, .int .i64 (D * 86400 + (h * 3600 + mi * 60 + s) + -9223372028741760000 + 62135596800), .pointer none] 79) hA
 refine bodyPost_ret (v := .agg #[.int .u64 0, .int .i64 (D * 86400 + (h * 3600 + mi * 60 + s) + -9223372028741760000 + 62135596800), .pointer none]) (by simp [results, Tryz.results43, go_sem, r0, r1, r2]) rfl ⟨ret_time (by omega), ?_⟩
 exact ((((hbw.setCell (Nat.le_refl _) _).setCell (Nat.le_refl _) _).setCell (Nat.le_refl _) _)).alloc (by simpa using Nat.le_of_lt hsz) _
structure Moment' (x y mo d h mi s : Int) : Prop where
 date : DateOk y mo d
 clock : ClockOk h mi s
 ext : x = extOf y mo d h mi s
def posV (y mo d h mi s : Int) (pos : Int) : Int := if pos = 0 then s else if pos = 1 then mi else if pos = 2 then h else if pos = 3 then d else if pos = 4 then mo else if pos = 5 then wdI y mo d else y
section
variable {x y mo d h mi s : Int} (M : Moment' x y mo d h mi s)
include M
theorem Moment'.r0 : 62700000000 ≤ x := M.ext ▸ (ext_range M.date M.clock).1
theorem Moment'.r1 : x ≤ 66100000000 := M.ext ▸ (ext_range M.date M.clock).2
theorem Moment'.abs : x + 9223371966606163200 = absD y mo d * 86400 + (h * 3600 + mi * 60 + s) := by rw [M.ext]; unfold extOf; omega
theorem Moment'.days : gotime_absSeconds_days.f (x + 9223371966606163200) = some (absD y mo d) := M.ext ▸ days_ext M.date M.clock
theorem sec_m (w : World) : Calls Tryz.prog 128 #[.agg #[.int .u64 0, .int .i64 x, .pointer none]] w fun e w' => e = .returned (.int .i64 s) ∧ Below w.heap.size w w' := by
 have e : (x + 9223371966606163200) % 60 = s := by rw [M.abs]; have := M.clock.s0; have := M.clock.s1; omega
 have := second_w x w M.r0 M.r1
 rwa [e] at this
theorem min_m (w : World) : Calls Tryz.prog 129 #[.agg #[.int .u64 0, .int .i64 x, .pointer none]] w fun e w' => e = .returned (.int .i64 mi) ∧ Below w.heap.size w w' := by
 have e : (x + 9223371966606163200) % 3600 / 60 = mi := by rw [M.abs]; have := M.clock.s0; have := M.clock.s1; have := M.clock.m0; have := M.clock.m1; omega
 have := minute_w x w M.r0 M.r1
 rwa [e] at this
theorem hour_m (w : World) : Calls Tryz.prog 130 #[.agg #[.int .u64 0, .int .i64 x, .pointer none]] w fun e w' => e = .returned (.int .i64 h) ∧ Below w.heap.size w w' := by
 have e : (x + 9223371966606163200) % 86400 / 3600 = h := by rw [M.abs]; have := M.clock.s0; have := M.clock.s1; have := M.clock.m0; have := M.clock.m1; have := M.clock.h0; have := M.clock.h1; omega
 have := hour_w x w M.r0 M.r1
 rwa [e] at this
theorem day_m (w : World) : Calls Tryz.prog 109 #[.agg #[.int .u64 0, .int .i64 x, .pointer none]] w fun e w' => e = .returned (.int .i64 d) ∧ Below w.heap.size w w' :=
 day_w x _ _ _ _ _ d w M.r0 M.r1 ⟨M.days⟩ ⟨split_date M.date⟩ ⟨(aydSplit M.date).1⟩
theorem month_m (w : World) : Calls Tryz.prog 119 #[.agg #[.int .u64 0, .int .i64 x, .pointer none]] w fun e w' => e = .returned (.int .i64 mo) ∧ Below w.heap.size w w' :=
 month_w x _ _ _ _ _ _ mo d w M.r0 M.r1 ⟨M.days⟩ ⟨split_date M.date⟩ ⟨(aydSplit M.date).1⟩ ⟨(aydSplit M.date).2.1⟩ ⟨(aydSplit M.date).2.2⟩
theorem year_m (w : World) : Calls Tryz.prog 118 #[.agg #[.int .u64 0, .int .i64 x, .pointer none]] w fun e w' => e = .returned (.int .i64 y) ∧ Below w.heap.size w w' :=
 year_w x _ _ _ _ _ y w M.r0 M.r1 ⟨M.days⟩ ⟨split_date M.date⟩ ⟨(aydSplit M.date).2.1⟩ ⟨centuryYear M.date⟩
theorem weekday_m (w : World) : Calls Tryz.prog 131 #[.agg #[.int .u64 0, .int .i64 x, .pointer none]] w fun e w' => e = .returned (.int .i64 (wdI y mo d)) ∧ Below w.heap.size w w' :=
 weekday_w x _ _ w M.r0 M.r1 ⟨M.days⟩ ⟨weekday_date M.date⟩
end
set_option maxRecDepth 100000 in
theorem val_w {x y mo d h mi s : Int} (M : Moment' x y mo d h mi s) (pos : Nat) (hp : pos < 7) (w : World) :
  Calls Tryz.prog 114 #[.agg #[.int .u64 0, .int .i64 x, .pointer none], .int .i64 (pos : Int)] w fun e w' => e = .returned (.int .i64 (posV y mo d h mi s pos)) ∧ Below w.heap.size w w' := by
 have M := Aside0.mk M
 match pos, hp with
 | 0, _ =>
  go_enter Tryz.func114, Tryz.ntmps114
  go_wp2_with (go_at_call 128; refine (sec_m M.out _).mono ?_; rintro e w1 ⟨rfl, hb⟩)
  go_ret
  exact ⟨rfl, below_then (below_alloc (Below.refl _ _) _) (by simp) hb⟩
 | 1, _ =>
  go_enter Tryz.func114, Tryz.ntmps114
  go_wp2_with (go_at_call 129; refine (min_m M.out _).mono ?_; rintro e w1 ⟨rfl, hb⟩)
  go_ret
  exact ⟨rfl, below_then (below_alloc (Below.refl _ _) _) (by simp) hb⟩
 | 2, _ =>
  go_enter Tryz.func114, Tryz.ntmps114
  go_wp2_with (go_at_call 130; refine (hour_m M.out _).mono ?_; rintro e w1 ⟨rfl, hb⟩)
  go_ret
  exact ⟨rfl, below_then (below_alloc (Below.refl _ _) _) (by simp) hb⟩
 | 3, _ =>
  go_enter Tryz.func114, Tryz.ntmps114
  go_wp2_with (go_at_call 109; refine (day_m M.out _).mono ?_; rintro e w1 ⟨rfl, hb⟩)
  go_ret
  exact ⟨rfl, below_then (below_alloc (Below.refl _ _) _) (by simp) hb⟩
 | 4, _ =>
  go_enter Tryz.func114, Tryz.ntmps114
  go_wp2_with (go_at_call 119; refine (month_m M.out _).mono ?_; rintro e w1 ⟨rfl, hb⟩)
  go_ret
  exact ⟨rfl, below_then (below_alloc (Below.refl _ _) _) (by simp) hb⟩
 | 5, _ =>
  go_enter Tryz.func114, Tryz.ntmps114
  go_wp2_with (go_at_call 131; refine (weekday_m M.out _).mono ?_; rintro e w1 ⟨rfl, hb⟩)
  go_ret
  exact ⟨rfl, below_then (below_alloc (Below.refl _ _) _) (by simp) hb⟩
 | 6, _ =>
  go_enter Tryz.func114, Tryz.ntmps114
  go_wp2_with (go_at_call 118; refine (year_m M.out _).mono ?_; rintro e w1 ⟨rfl, hb⟩)
  go_ret
  exact ⟨rfl, below_then (below_alloc (Below.refl _ _) _) (by simp) hb⟩
theorem getRef_w (c : Nat) (x : Int) (w : World) (h0 : w.cell? ⟨c, 0, none⟩ = some (.int .u64 0)) (h1 : w.cell? ⟨c, 1, none⟩ = some (.int .i64 x)) (h2 : w.cell? ⟨c, 2, none⟩ = some (.pointer none)) :
  Calls Tryz.prog 112 #[.pointer (some ⟨c, 0, none⟩)] w fun e w' => e = .returned (.agg #[.int .u64 0, .int .i64 x, .pointer none]) ∧ Below w.heap.size w w' := by
 have hc : c < w.heap.size := World.block_lt_of_cell? w ⟨c, 0, none⟩ h0
 have hne : c ≠ w.heap.size := Nat.ne_of_lt hc
 have hne' : w.heap.size ≠ c := Nat.ne_of_gt hc
 go_enter Tryz.func112, Tryz.ntmps112
 go_wp2
 exact bodyPost_ret (v := .agg #[.int .u64 0, .int .i64 x, .pointer none]) (by simp [results, Tryz.results112, go_sem]) rfl ⟨rfl, (Below.refl _ _).alloc (Nat.le_refl _) _⟩
def SI (n : Nat) (y mo d h mi s : Int) (w' : World) : Prop := n + 1 < w'.heap.size ∧ w'.cell? ⟨n, 0, none⟩ = some (.int .i64 y) ∧ w'.cell? ⟨n, 1, none⟩ = some (.int .i64 mo) ∧ w'.cell? ⟨n, 2, none⟩ = some (.int .i64 d) ∧ w'.cell? ⟨n, 3, none⟩ = some (.int .i64 h) ∧ w'.cell? ⟨n, 4, none⟩ = some (.int .i64 mi) ∧ w'.cell? ⟨n, 5, none⟩ = some (.int .i64 s) ∧ w'.frozen? ⟨n + 1, 0, none⟩ = false ∧ w'.frozen? ⟨n + 1, 1, none⟩ = false ∧ w'.frozen? ⟨n + 1, 2, none⟩ = false ∧ (∃ v, w'.cell? ⟨n + 1, 0, none⟩ = some v) ∧ (∃ v, w'.cell? ⟨n + 1, 1, none⟩ = some v) ∧ (∃ v, w'.cell? ⟨n + 1, 2, none⟩ = some v)
theorem SI.below {n : Nat} {y mo d h mi s : Int} {a b : World} (hb : Below a.heap.size a b) (hS : SI n y mo d h mi s a) : SI n y mo d h mi s b := by
 obtain ⟨h0, h1, h2, h3, h4, h5, h6, h7, h8, h9, ⟨v0, k0⟩, ⟨v1, k1⟩, ⟨v2, k2⟩⟩ := hS
 exact ⟨Nat.lt_of_lt_of_le h0 hb.size, cell_after hb h1, cell_after hb h2, cell_after hb h3, cell_after hb h4, cell_after hb h5, cell_after hb h6, (hb.frozen h0).trans h7, (hb.frozen h0).trans h8, (hb.frozen h0).trans h9, ⟨v0, cell_after hb k0⟩, ⟨v1, cell_after hb k1⟩, ⟨v2, cell_after hb k2⟩⟩
theorem SI.cells {n : Nat} {y mo d h mi s : Int} {a : World} (hS : SI n y mo d h mi s a) : ∃ v0 v1 v2, a.cell? ⟨n + 1, 0, none⟩ = some v0 ∧ a.cell? ⟨n + 1, 1, none⟩ = some v1 ∧ a.cell? ⟨n + 1, 2, none⟩ = some v2 ∧ a.frozen? ⟨n + 1, 0, none⟩ = false ∧ a.frozen? ⟨n + 1, 1, none⟩ = false ∧ a.frozen? ⟨n + 1, 2, none⟩ = false := by
 obtain ⟨h0, h1, h2, h3, h4, h5, h6, h7, h8, h9, ⟨v0, k0⟩, ⟨v1, k1⟩, ⟨v2, k2⟩⟩ := hS
 exact ⟨v0, v1, v2, k0, k1, k2, h7, h8, h9⟩
theorem frozen_set {w : World} {a b : Addr} {v : Value} : (w.setCell a v).frozen? b = w.frozen? b := by simp
theorem set_some {w : World} {a b : Addr} {v u : Value} (h : w.cell? b = some u) : ∃ u', (w.setCell a v).cell? b = some u' := cell?_setCell_some h
theorem SI.set {n j : Nat} {v : Value} {y mo d h mi s : Int} {a : World} (hS : SI n y mo d h mi s a) : SI n y mo d h mi s (a.setCell ⟨n + 1, j, none⟩ v) := by
 obtain ⟨h0, h1, h2, h3, h4, h5, h6, h7, h8, h9, ⟨v0, k0⟩, ⟨v1, k1⟩, ⟨v2, k2⟩⟩ := hS
 exact ⟨by simpa using h0, (set_other (by simp)).trans h1, (set_other (by simp)).trans h2, (set_other (by simp)).trans h3, (set_other (by simp)).trans h4, (set_other (by simp)).trans h5, (set_other (by simp)).trans h6, frozen_set.trans h7, frozen_set.trans h8, frozen_set.trans h9, set_some k0, set_some k1, set_some k2⟩
theorem set3 {w4 : World} {g : Nat} {x0 x1 x2 a b c : Value} (h0 : w4.cell? ⟨g, 0, none⟩ = some x0) (h1 : w4.cell? ⟨g, 1, none⟩ = some x1) (h2 : w4.cell? ⟨g, 2, none⟩ = some x2) :
  (((w4.setCell ⟨g, 0, none⟩ a).setCell ⟨g, 1, none⟩ b).setCell ⟨g, 2, none⟩ c).cell? ⟨g, 0, none⟩ = some a ∧
  (((w4.setCell ⟨g, 0, none⟩ a).setCell ⟨g, 1, none⟩ b).setCell ⟨g, 2, none⟩ c).cell? ⟨g, 1, none⟩ = some b ∧
  (((w4.setCell ⟨g, 0, none⟩ a).setCell ⟨g, 1, none⟩ b).setCell ⟨g, 2, none⟩ c).cell? ⟨g, 2, none⟩ = some c := by
 have k0 : (w4.setCell ⟨g, 0, none⟩ a).cell? ⟨g, 0, none⟩ = some a := set_same h0
 have k1 : ((w4.setCell ⟨g, 0, none⟩ a).setCell ⟨g, 1, none⟩ b).cell? ⟨g, 0, none⟩ = some a := (set_other (by simp)).trans k0
 have k2 : ((w4.setCell ⟨g, 0, none⟩ a).setCell ⟨g, 1, none⟩ b).cell? ⟨g, 1, none⟩ = some b := set_same ((set_other (by simp)).trans h1)
 exact ⟨(set_other (by simp)).trans k1, (set_other (by simp)).trans k2, set_same ((set_other (by simp)).trans ((set_other (by simp)).trans h2))⟩
theorem utc_b (w : World) : Calls Tryz.prog 44 #[] w fun e w' => ∃ b, e = .returned (.pointer (some ⟨b, 0, none⟩)) ∧ w'.cell? ⟨b, 0, none⟩ = some (.bool true) ∧ w'.cell? ⟨b, 2, none⟩ = some (.slice none 0 0) ∧ Below w.heap.size w w' := by
 refine (utc_any w).mono ?_
 rintro e w' ⟨rfl, rfl⟩
 exact ⟨_, rfl, by simp [utcCells, go_sem], by simp [utcCells, go_sem], (Below.refl _ _).alloc (Nat.le_refl _) _⟩
theorem timeOf_w {y mo d h mi s : Int} (hd : DateOk y mo d) (hc : ClockOk h mi s) (w : World) :
  Calls Tryz.prog 33 #[.agg #[.int .i64 y, .int .i64 mo, .int .i64 d, .int .i64 h, .int .i64 mi, .int .i64 s]] w fun e w' => e = .returned (.agg #[.int .u64 0, .int .i64 (extOf y mo d h mi s), .pointer none]) ∧ Below w.heap.size w w' := by
 have hD : Aside0 (gotime_dateToAbsDays.f y mo d = some (absD y mo d)) := ⟨dateToAbs_eq y mo d hd.y0 hd.y1 hd.m0 hd.m1 hd.d0 (by have := hd.d1; have := (daysI_cases y mo hd.m0 hd.m1).1; omega)⟩
 have hr := Aside0.mk (absD_range hd)
 have hd := Aside0.mk hd
 have hc := Aside0.mk hc
 go_enter Tryz.func33, Tryz.ntmps33
 go_wp2
 go_region_held (fun w' => w.heap.size + 1 < w'.heap.size ∧ w'.cell? ⟨w.heap.size, 0, none⟩ = some (.int .i64 y) ∧ w'.cell? ⟨w.heap.size, 1, none⟩ = some (.int .i64 mo) ∧ w'.cell? ⟨w.heap.size, 2, none⟩ = some (.int .i64 d) ∧ w'.cell? ⟨w.heap.size, 3, none⟩ = some (.int .i64 h) ∧ w'.cell? ⟨w.heap.size, 4, none⟩ = some (.int .i64 mi) ∧ w'.cell? ⟨w.heap.size, 5, none⟩ = some (.int .i64 s) ∧ w'.frozen? ⟨w.heap.size + 1, 0, none⟩ = false ∧ w'.frozen? ⟨w.heap.size + 1, 1, none⟩ = false ∧ w'.frozen? ⟨w.heap.size + 1, 2, none⟩ = false ∧ (∃ v, w'.cell? ⟨w.heap.size + 1, 0, none⟩ = some v) ∧ (∃ v, w'.cell? ⟨w.heap.size + 1, 1, none⟩ = some v) ∧ (∃ v, w'.cell? ⟨w.heap.size + 1, 2, none⟩ = some v))
  (first | exact SI.below hb (by assumption) | exact SI.below hb1 (by assumption) | exact SI.set (SI.set (SI.set (by assumption))) | go_keep | (trace_state; fail)) (first | (go_at_call 44; refine (utc_b _).mono ?_; rintro e w1 ⟨b, rfl, hu0, hu2, hb1⟩) | (go_at_call 43; refine (date_w y mo d h mi s (absD y mo d) _ _ hd.out.m0 hd.out.m1 hc.out.h0 hc.out.h1 hc.out.m0 hc.out.m1 hc.out.s0 hc.out.s1 hD hr.out.1 hr.out.2 (by assumption) (by assumption)).mono ?_; rintro e w2 ⟨rfl, hb⟩; obtain ⟨v0, v1, v2, hk0, hk1, hk2, hf0, hf1, hf2⟩ := SI.cells (SI.below hb (by assumption))))
 rename_i hHeld
 clear hHeld
 obtain ⟨r0, r1, r2⟩ := set3 (a := .int .u64 0) (b := .int .i64 (absD y mo d * 86400 + (h * 3600 + mi * 60 + s) + -9223371966606163200)) (c := .pointer none) hk0 hk1 hk2
 go_wp2
 refine bodyPost_ret (v := .agg #[.int .u64 0, .int .i64 (absD y mo d * 86400 + (h * 3600 + mi * 60 + s) + -9223371966606163200), .pointer none]) (by simp [results, Tryz.results33, go_sem, r0, r1, r2]) rfl ⟨ret_time (by unfold extOf; omega), ?_⟩
 have b1 : Below w.heap.size w w1 := Below.trans (by repeat (first | exact Below.refl _ _ | apply below_alloc | apply below_drew1)) (hb1.mono (by simp; omega))
 have b2 : Below w.heap.size w w2 := b1.trans (hb.mono b1.size)
 exact ((b2.setCell (Nat.le_succ _) _).setCell (Nat.le_succ _) _).setCell (Nat.le_succ _) _
end Go.Proofs.YtemgofomhjabpaaGreatDoor.Core
namespace Go.Proofs.YtemgofomhjabpaaGreatDoor.Core
open Go.RowKit Go.Proofs.YtemgofomhjabpaaGreatDoorW.PrintWords Go.Proofs.YtemgofomhjabpaaGreatDoorW.PrintLast Go.Proofs.YtemgofomhjabpaaGreatDoorW.PrintMore
attribute [local go_sem] max2_int min2_int max_two min_two max_three min_three max_four min_four   -- for this text's walks alone
set_option linter.unusedVariables false
set_option linter.unusedSimpArgs false
def gronx_zzIndex.l0 : Nat → ByteArray → ByteArray → Int → Option (Int)
 | 0, _, _, _ => none
 | k + 1, x0, x1, x5 => if (wrap64 (x5 + (x1.size : Int))) ≤ (x0.size : Int) then (if 0 ≤ x5 then (if x5 ≤ (wrap64 (x5 + (x1.size : Int))) then (if (x0.extract (x5 : Int).toNat ((wrap64 (x5 + (x1.size : Int))) : Int).toNat).toList = x1.toList then (some x5) else (gronx_zzIndex.l0 k x0 x1 (wrap64 (x5 + 1)))) else (none)) else (none)) else (some (-1))
def gronx_zzIndex.f (k : Nat) (a0 : ByteArray) (a1 : ByteArray) : Option (Int) := gronx_zzIndex.l0 k a0 a1 0
theorem gronx_zzIndex.mono_l : ∀ k, (∀ y0 y1 y2, LeO (gronx_zzIndex.l0 k y0 y1 y2) (gronx_zzIndex.l0 (k + 1) y0 y1 y2))
 | 0 => fun _ _ _ r h => by simp [gronx_zzIndex.l0] at h
 | k + 1 => by
  have ih0 := gronx_zzIndex.mono_l k
  ·intro y0 y1 y2
   unfold gronx_zzIndex.l0
   repeat' first
   | (with_reducible exact ih0 _ _ _)
   | (with_reducible exact LeO.refl _)
   | (with_reducible exact LeO.none _)
   | (with_reducible refine LeO.ite ?_ ?_)
   | (with_reducible refine LeO.bind ?_ (fun _ => ?_))
   | exact ih0 _ _ _
   | exact LeO.none _
   | refine LeO.ite ?_ ?_
   | refine LeO.bind ?_ (fun _ => ?_)
theorem gronx_zzIndex.mono : ∀ a0 a1 k, LeO (gronx_zzIndex.f k a0 a1) (gronx_zzIndex.f (k + 1) a0 a1) := by
 intro a0 a1 k
 have ih0 := gronx_zzIndex.mono_l k
 unfold gronx_zzIndex.f
 repeat' first
   | (with_reducible exact ih0 _ _ _)
   | (with_reducible exact LeO.refl _)
   | (with_reducible exact LeO.none _)
   | (with_reducible refine LeO.ite ?_ ?_)
   | (with_reducible refine LeO.bind ?_ (fun _ => ?_))
   | exact ih0 _ _ _
   | exact LeO.none _
   | refine LeO.ite ?_ ?_
   | refine LeO.bind ?_ (fun _ => ?_)
set_option maxHeartbeats 8000000 in
set_option maxRecDepth 100000 in
theorem gronx_zzIndex.calls (k : Nat) (a0 : ByteArray) (a1 : ByteArray) (r : Int) (w : World) (h : gronx_zzIndex.f k a0 a1 = some r) :
  Calls Tryz.prog 50 #[.string a0, .string a1] w fun e w' => e = .returned (.int .i64 r) ∧ Drawn0 w w' := by
 have H : (gronx_zzIndex.l0 k a0 a1 0) = some r := h
 clear h
 have H' := Aside0.mk H
 clear H
 go_enter Tryz.func50, Tryz.ntmps50
 go_wp2
 go_loopg [5] k (fun kq v5 w' => ∃ (x5_1 : Int), v5 = .int .i64 x5_1 ∧ Aside0 (gronx_zzIndex.l0 kq a0 a1 x5_1 = some r) ∧ Aside0 (kq ≤ k) ∧ Drawn0 w w')
 case atStart => exact ⟨(0), (by first | rfl | (simp; done) | (simp [*]; done)), H', ⟨Nat.le_refl _⟩, by repeat (first | exact Drawn0.refl _ | apply Drawn0.step)⟩
 case round =>
  clear H'
  obtain ⟨x5_1, rfl, HA, HK1, ⟨m1, rfl⟩⟩ := hrel
  cases gk with
  | zero => exact absurd HA.out (by simp [gronx_zzIndex.l0])
  | succ k1 =>
   have H := HA.out
   clear HA
   simp only [gronx_zzIndex.l0] at H
   by_cases c3 : (wrap64 (x5_1 + (a1.size : Int))) ≤ (a0.size : Int)
   ·rw [if_pos c3] at H
    have c3b0 : decide ((wrap64 (x5_1 + (a1.size : Int))) ≤ (a0.size : Int)) = true := decide_eq_true c3
    clear c3
    by_cases c4 : 0 ≤ x5_1
    ·rw [if_pos c4] at H
     have c4b0 := eq_true c4
     have c4b1 : decide (0 ≤ x5_1) = true := decide_eq_true c4
     clear c4
     by_cases c5 : x5_1 ≤ (wrap64 (x5_1 + (a1.size : Int)))
     ·rw [if_pos c5] at H
      have c5b0 := eq_true c5
      have c5b1 : decide (x5_1 ≤ (wrap64 (x5_1 + (a1.size : Int)))) = true := decide_eq_true c5
      have c6b0 := eq_true (of_decide_eq_true (by first | (with_reducible assumption) | assumption) : (wrap64 (x5_1 + (a1.size : Int))) ≤ (a0.size : Int))
      by_cases c7 : (a0.extract (x5_1 : Int).toNat ((wrap64 (x5_1 + (a1.size : Int))) : Int).toNat).toList = a1.toList
      ·rw [if_pos c7] at H
       have c7b0 : ((a0.extract (x5_1 : Int).toNat ((wrap64 (x5_1 + (a1.size : Int))) : Int).toNat).toList == a1.toList) = true := beq_iff_eq.mpr c7
       have c7b1 : ((a0.extract (x5_1 : Int).toNat ((wrap64 (x5_1 + (a1.size : Int))) : Int).toNat).toList != a1.toList) = false := bne_eq_false_iff_eq.mpr c7
       clear c7
       obtain rfl := Option.some.inj H
       go_wp2
       go_ret
       exact ⟨by first | rfl | (simp; done) | (simp [*]; done), by repeat (first | exact Drawn0.refl _ | apply Drawn0.step)⟩
      ·rw [if_neg c7] at H
       have c7b0 : ((a0.extract (x5_1 : Int).toNat ((wrap64 (x5_1 + (a1.size : Int))) : Int).toNat).toList == a1.toList) = false := beq_eq_false_iff_ne.mpr c7
       have c7b1 : ((a0.extract (x5_1 : Int).toNat ((wrap64 (x5_1 + (a1.size : Int))) : Int).toNat).toList != a1.toList) = true := bne_iff_ne.mpr c7
       have H' := Aside0.mk H
       clear H
       go_wp2
       go_roundg k1
       case measure => have := HK1.out; omega
       case rel => exact ⟨(wrap64 (x5_1 + 1)), (by first | rfl | (simp; done) | (simp [*]; done)), H', ⟨by have := HK1.out; omega⟩, by repeat (first | exact Drawn0.refl _ | apply Drawn0.step)⟩
     ·rw [if_neg c5] at H
      exact absurd H (by simp)
    ·rw [if_neg c4] at H
     exact absurd H (by simp)
   ·rw [if_neg c3] at H
    have c3b0 : decide ((wrap64 (x5_1 + (a1.size : Int))) ≤ (a0.size : Int)) = false := decide_eq_false c3
    clear c3
    obtain rfl := Option.some.inj H
    go_wp2
    go_ret
    exact ⟨by first | rfl | (simp; done) | (simp [*]; done), by repeat (first | exact Drawn0.refl _ | apply Drawn0.step)⟩
def gronx_zzSplit.l0 : Nat → ByteArray → ByteArray → List ByteArray → Option (List ByteArray)
 | 0, _, _, _ => none
 | k + 1, x0, x1, x5 => (gronx_zzIndex.f k x0 x1).bind fun t339 => (if t339 < 0 then (if x5.length < 8796093022208 then (some (x5 ++ [x0])) else (none)) else (if 0 ≤ t339 then (if t339 ≤ (x0.size : Int) then (if x5.length < 8796093022208 then (if 0 ≤ (wrap64 (t339 + (x1.size : Int))) then (if (wrap64 (t339 + (x1.size : Int))) ≤ (x0.size : Int) then (gronx_zzSplit.l0 k (x0.extract ((wrap64 (t339 + (x1.size : Int))) : Int).toNat x0.size) x1 (x5 ++ [x0.extract 0 (t339 : Int).toNat])) else (none)) else (none)) else (none)) else (none)) else (none)))
def gronx_zzSplit.f (k : Nat) (a0 : ByteArray) (a1 : ByteArray) : Option (List ByteArray) := gronx_zzSplit.l0 k a0 a1 ([] : List ByteArray)
theorem gronx_zzSplit.mono_l : ∀ k, (∀ y0 y1 y2, LeO (gronx_zzSplit.l0 k y0 y1 y2) (gronx_zzSplit.l0 (k + 1) y0 y1 y2))
 | 0 => fun _ _ _ r h => by simp [gronx_zzSplit.l0] at h
 | k + 1 => by
  have ih0 := gronx_zzSplit.mono_l k
  ·intro y0 y1 y2
   unfold gronx_zzSplit.l0
   repeat' first
   | (with_reducible exact ih0 _ _ _)
   | (with_reducible exact gronx_zzIndex.mono _ _ _)
   | (with_reducible exact LeO.refl _)
   | (with_reducible exact LeO.none _)
   | (with_reducible refine LeO.ite ?_ ?_)
   | (with_reducible refine LeO.bind ?_ (fun _ => ?_))
   | exact ih0 _ _ _
   | exact gronx_zzIndex.mono _ _ _
   | exact LeO.none _
   | refine LeO.ite ?_ ?_
   | refine LeO.bind ?_ (fun _ => ?_)
theorem gronx_zzSplit.mono : ∀ a0 a1 k, LeO (gronx_zzSplit.f k a0 a1) (gronx_zzSplit.f (k + 1) a0 a1) := by
 intro a0 a1 k
 have ih0 := gronx_zzSplit.mono_l k
 unfold gronx_zzSplit.f
 repeat' first
   | (with_reducible exact ih0 _ _ _)
   | (with_reducible exact gronx_zzIndex.mono _ _ _)
   | (with_reducible exact LeO.refl _)
   | (with_reducible exact LeO.none _)
   | (with_reducible refine LeO.ite ?_ ?_)
   | (with_reducible refine LeO.bind ?_ (fun _ => ?_))
   | exact ih0 _ _ _
   | exact gronx_zzIndex.mono _ _ _
   | exact LeO.none _
   | refine LeO.ite ?_ ?_
   | refine LeO.bind ?_ (fun _ => ?_)
set_option maxHeartbeats 8000000 in
set_option maxRecDepth 100000 in
theorem gronx_zzSplit.calls (k : Nat) (a0 : ByteArray) (a1 : ByteArray) (r : List ByteArray) (w : World) (h : gronx_zzSplit.f k a0 a1 = some r) :
  Calls Tryz.prog 62 #[.string a0, .string a1] w fun e w' => ∃ v0_ : Value, e = .returned (v0_) ∧ Kd.R Kd.string 9 w' w.heap.size (fun _ => True) v0_ r ∧ Below w.heap.size w w' := by
 have HB := Aside0.mk (Below.refl w.heap.size w)
 have H : (gronx_zzSplit.l0 k a0 a1 ([] : List ByteArray)) = some r := h
 clear h
 have H' := Aside0.mk H
 clear H
 go_enter Tryz.func62, Tryz.ntmps62
 go_wp2
 go_loopg [0, 5] k (fun kq v0 v5 w' => ∃ (x0_1 : ByteArray) (x5_1 : List ByteArray), v0 = .string x0_1 ∧ Aside0 (gronx_zzSplit.l0 kq x0_1 a1 x5_1 = some r) ∧ Aside0 (kq ≤ k) ∧ Aside0 (Kd.R Kd.string 9 w' w.heap.size (fun _ => True) v5 x5_1) ∧ Aside0 (Below w.heap.size w w'))
 case atStart => exact ⟨(a0), (([] : List ByteArray)), (by first | rfl | (simp; done) | (simp [*]; done)), H', ⟨Nat.le_refl _⟩, ⟨by first | exact Kd.R_nil _ _ _ _ _ | exact Kd.N_nil _ _ _ _ _ | exact Kd.V_nil _ _ _ _ _ | exact Kd.Q_nil _ _ _ _ _ | exact Kd.S_nil _ _ _ _ _⟩, ⟨by repeat (first | (with_reducible first | exact HB.out | apply below_alloc | apply pw_below_drewN | apply below_drew1) | exact HB.out)⟩⟩
 case round =>
  clear H'
  obtain ⟨x0_1, x5_1, rfl, HA, HK1, HO_5, HB⟩ := hrel
  cases gk with
  | zero => exact absurd HA.out (by simp [gronx_zzSplit.l0])
  | succ k1 =>
   have H := HA.out
   clear HA
   simp only [gronx_zzSplit.l0] at H
   replace H := Option.bind_eq_some_iff.mp H
   obtain ⟨t339, A30, H⟩ := H
   replace H : (if t339 < 0 then (if x5_1.length < 8796093022208 then (some (x5_1 ++ [x0_1])) else (none)) else (if 0 ≤ t339 then (if t339 ≤ (x0_1.size : Int) then (if x5_1.length < 8796093022208 then (if 0 ≤ (wrap64 (t339 + (a1.size : Int))) then (if (wrap64 (t339 + (a1.size : Int))) ≤ (x0_1.size : Int) then (gronx_zzSplit.l0 k1 (x0_1.extract ((wrap64 (t339 + (a1.size : Int))) : Int).toNat x0_1.size) a1 (x5_1 ++ [x0_1.extract 0 (t339 : Int).toNat])) else (none)) else (none)) else (none)) else (none)) else (none))) = some r := H
   have A3 := Aside0.mk A30
   clear A30
   by_cases c4 : t339 < 0
   ·rw [if_pos c4] at H
    have c4b0 : decide (t339 < 0) = true := decide_eq_true c4
    clear c4
    by_cases c5 : x5_1.length < 8796093022208
    ·rw [if_pos c5] at H
     have LMc5 := Aside0.mk c5
     clear c5
     obtain ⟨y340, hy340⟩ : ∃ y_ : List ByteArray, y_ = (x5_1 ++ [x0_1]) := ⟨_, rfl⟩
     replace H : (some y340) = some r := by first | (rw [hy340]; with_reducible exact H) | (have H2_ := (Option.bind_some _ _).symm.trans H; rw [hy340]; with_reducible exact H2_) | (have H2_ := (Option.bind_some _ _).symm.trans H; with_reducible exact H2_) | with_reducible exact H | (rw [hy340]; exact H) | exact H
     have Ny340 := Aside0.mk hy340
     clear hy340
     obtain rfl := Option.some.inj H
     go_wp2_with (first | ((with_reducible refine gate_callee (f := 50) rfl ?_); refine goesL_ (some 9) rfl rfl Tryz.func50 (by kernel_rfl) rfl #[.string x0_1, .string a1] rfl (by (try simp only [List.map_toArray, List.map_cons, List.map_nil]); first | done | rfl | (simp only [List.length_drop, List.length_take]; rfl)) ?_; (with_reducible refine (gronx_zzIndex.calls k1 x0_1 a1 t339 _ A3.out).mono ?_); rintro e w' ⟨rfl, ⟨nd, rfl⟩⟩; refine ⟨_, rfl, ?_⟩) | ((with_reducible refine gate_builtin (b := .append) (xs := #[.tmp 12, .tmp 14]) rfl ?_); at_builtin; refine Kd.R_append Kd.string (w0 := w) w.heap.size rfl (.tmp 12) (.tmp 14) 55 9 (.string ⟨#[]⟩) 16 rfl Tryz.underlying55 info9 rfl (by decide) (by omega) u5 x5_1 x0_1 [.string x0_1] (fun _ => True) (fun _ => False) rfl rfl ?aP (fun _ hk => hk.elim) ?aF ?aO ?aB ?aS ?aL ?_; (case aP => exact rfl); (case aB => exact (by repeat (first | (with_reducible first | exact HB.out | apply below_alloc | apply pw_below_drewN | apply below_drew1) | exact HB.out))); (case aF => exact (fun _ _ => trivial)); (case aO => exact (by (with_reducible repeat (first | apply Kd.R_alloc | apply Kd.R_drewN | apply Kd.R_drew)); exact HO_5.out)); (case aS => exact (below_size (by repeat (first | (with_reducible first | exact HB.out | apply below_alloc | apply pw_below_drewN | apply below_drew1) | exact HB.out)))); (case aL => have := LMc5.out; omega); intro v341 w6 ho hb hg hat; rw [← Ny340.out] at ho; have n0_ := Aside0.mk (hb); have n1_ := Aside0.mk (ho); clear HB; clear HO_5; have HB := n0_; have HO342 := n1_; clear n0_ n1_; clear ho hb hg hat))
     go_ret
     exact ⟨_, by first | rfl | (simp [errW_none, errW_some] <;> rfl) | (simp [*, errW_none, errW_some] <;> rfl), by (with_reducible repeat (first | apply Kd.R_alloc | apply Kd.R_drewN | apply Kd.R_drew)); exact HO342.out, by repeat (first | (with_reducible first | exact HB.out | apply below_alloc | apply pw_below_drewN | apply below_drew1) | exact HB.out)⟩
    ·rw [if_neg c5] at H
     exact absurd H (by simp)
   ·rw [if_neg c4] at H
    have c4b0 : decide (t339 < 0) = false := decide_eq_false c4
    clear c4
    by_cases c7 : 0 ≤ t339
    ·rw [if_pos c7] at H
     have c7b0 := eq_true c7
     have c7b1 : decide (0 ≤ t339) = true := decide_eq_true c7
     clear c7
     by_cases c8 : t339 ≤ (x0_1.size : Int)
     ·rw [if_pos c8] at H
      have c8b0 := eq_true c8
      have c8b1 : decide (t339 ≤ (x0_1.size : Int)) = true := decide_eq_true c8
      clear c8
      by_cases c9 : x5_1.length < 8796093022208
      ·rw [if_pos c9] at H
       have LMc9 := Aside0.mk c9
       clear c9
       obtain ⟨y343, hy343⟩ : ∃ y_ : List ByteArray, y_ = (x5_1 ++ [x0_1.extract 0 (t339 : Int).toNat]) := ⟨_, rfl⟩
       replace H : (if 0 ≤ (wrap64 (t339 + (a1.size : Int))) then (if (wrap64 (t339 + (a1.size : Int))) ≤ (x0_1.size : Int) then (gronx_zzSplit.l0 k1 (x0_1.extract ((wrap64 (t339 + (a1.size : Int))) : Int).toNat x0_1.size) a1 y343) else (none)) else (none)) = some r := by first | (rw [hy343]; with_reducible exact H) | (have H2_ := (Option.bind_some _ _).symm.trans H; rw [hy343]; with_reducible exact H2_) | (have H2_ := (Option.bind_some _ _).symm.trans H; with_reducible exact H2_) | with_reducible exact H | (rw [hy343]; exact H) | exact H
       have Ny343 := Aside0.mk hy343
       clear hy343
       obtain ⟨ji10, hji10⟩ : ∃ j_ : Int, (wrap64 (t339 + (a1.size : Int))) = j_ := ⟨_, rfl⟩
       replace H : (if 0 ≤ (ji10) then (if (ji10) ≤ (x0_1.size : Int) then (gronx_zzSplit.l0 k1 (x0_1.extract ((ji10) : Int).toNat x0_1.size) a1 y343) else (none)) else (none)) = some r := by first | (rw [hji10] at H; exact H) | (simp only [hji10] at H ⊢; exact H)
       (try rw [hji10] at A3)
       have hji10w : (IntKind.i64.wrap (t339 + (a1.size : Int))) = ji10 := (i64_w _).trans hji10
       by_cases c11 : 0 ≤ (ji10)
       ·rw [if_pos c11] at H
        have c11b0 := eq_true c11
        have c11b1 : decide (0 ≤ (ji10)) = true := decide_eq_true c11
        clear c11
        by_cases c12 : (ji10) ≤ (x0_1.size : Int)
        ·rw [if_pos c12] at H
         have c12b0 := eq_true c12
         have c12b1 : decide ((ji10) ≤ (x0_1.size : Int)) = true := decide_eq_true c12
         clear c12
         have H' := Aside0.mk H
         clear H
         go_wp2_with (first | ((with_reducible refine gate_callee (f := 50) rfl ?_); refine goesL_ (some 9) rfl rfl Tryz.func50 (by kernel_rfl) rfl #[.string x0_1, .string a1] rfl (by (try simp only [List.map_toArray, List.map_cons, List.map_nil]); first | done | rfl | (simp only [List.length_drop, List.length_take]; rfl)) ?_; (with_reducible refine (gronx_zzIndex.calls k1 x0_1 a1 t339 _ A3.out).mono ?_); rintro e w' ⟨rfl, ⟨nd, rfl⟩⟩; refine ⟨_, rfl, ?_⟩) | ((with_reducible refine gate_builtin (b := .append) (xs := #[.tmp 16, .tmp 20]) rfl ?_); at_builtin; refine Kd.R_append Kd.string (w0 := w) w.heap.size rfl (.tmp 16) (.tmp 20) 55 9 (.string ⟨#[]⟩) 16 rfl Tryz.underlying55 info9 rfl (by decide) (by omega) u5 x5_1 (x0_1.extract 0 (t339 : Int).toNat) [.string (x0_1.extract 0 (t339 : Int).toNat)] (fun _ => True) (fun _ => False) rfl rfl ?aP (fun _ hk => hk.elim) ?aF ?aO ?aB ?aS ?aL ?_; (case aP => exact rfl); (case aB => exact (by repeat (first | (with_reducible first | exact HB.out | apply below_alloc | apply pw_below_drewN | apply below_drew1) | exact HB.out))); (case aF => exact (fun _ _ => trivial)); (case aO => exact (by (with_reducible repeat (first | apply Kd.R_alloc | apply Kd.R_drewN | apply Kd.R_drew)); exact HO_5.out)); (case aS => exact (below_size (by repeat (first | (with_reducible first | exact HB.out | apply below_alloc | apply pw_below_drewN | apply below_drew1) | exact HB.out)))); (case aL => have := LMc9.out; omega); intro v344 w13 ho hb hg hat; rw [← Ny343.out] at ho; have n0_ := Aside0.mk (hb); have n1_ := Aside0.mk (ho); clear HB; clear HO_5; have HB := n0_; have HO345 := n1_; clear n0_ n1_; clear ho hb hg hat))
         go_roundg k1
         case measure => have := HK1.out; omega
         case rel => exact ⟨(x0_1.extract ((ji10) : Int).toNat x0_1.size), (y343), (by first | rfl | (simp; done) | (simp only [← hji10] <;> (first | rfl | simp)) | (simp [*]; done)), H', ⟨by have := HK1.out; omega⟩, ⟨by (with_reducible repeat (first | apply Kd.R_alloc | apply Kd.R_drewN | apply Kd.R_drew)); exact HO345.out⟩, ⟨by repeat (first | (with_reducible first | exact HB.out | apply below_alloc | apply pw_below_drewN | apply below_drew1) | exact HB.out)⟩⟩
        ·rw [if_neg c12] at H
         exact absurd H (by simp)
       ·rw [if_neg c11] at H
        exact absurd H (by simp)
      ·rw [if_neg c9] at H
       exact absurd H (by simp)
     ·rw [if_neg c8] at H
      exact absurd H (by simp)
    ·rw [if_neg c7] at H
     exact absurd H (by simp)
mutual
def gronx_zzContainsAny.l0 : Nat → ByteArray → ByteArray → Int → Option (Bool)
 | 0, _, _, _ => none
 | k + 1, x0, x1, x5 => if x5 < (x0.size : Int) then (gronx_zzContainsAny.l1 k x0 x1 x5 0) else (some false)
def gronx_zzContainsAny.l1 : Nat → ByteArray → ByteArray → Int → Int → Option (Bool)
 | 0, _, _, _, _ => none
 | k + 1, x0, x1, x5, x6 => if x6 < (x1.size : Int) then (if 0 ≤ x5 then (if x5 < (x0.size : Int) then (if 0 ≤ x6 then (if (bt x0 x5) = (bt x1 x6) then (some true) else (gronx_zzContainsAny.l1 k x0 x1 x5 (wrap64 (x6 + 1)))) else (none)) else (none)) else (none)) else (gronx_zzContainsAny.l0 k x0 x1 (wrap64 (x5 + 1)))
end
def gronx_zzContainsAny.f (k : Nat) (a0 : ByteArray) (a1 : ByteArray) : Option (Bool) := gronx_zzContainsAny.l0 k a0 a1 0
set_option maxHeartbeats 8000000 in
set_option maxRecDepth 100000 in
theorem gronx_zzContainsAny.calls (k : Nat) (a0 : ByteArray) (a1 : ByteArray) (r : Bool) (w : World) (h : gronx_zzContainsAny.f k a0 a1 = some r) :
  Calls Tryz.prog 116 #[.string a0, .string a1] w fun e w' => e = .returned (.bool r) ∧ Drawn0 w w' := by
 have H : (gronx_zzContainsAny.l0 k a0 a1 0) = some r := h
 clear h
 have H' := Aside0.mk H
 clear H
 go_enter Tryz.func116, Tryz.ntmps116
 go_wp2
 repeat (go_quiet (fail); try go_wp2)
 go_loopg [5] k (fun kq v5 w' => ∃ (x5_1 : Int), v5 = .int .i64 x5_1 ∧ Aside0 (gronx_zzContainsAny.l0 kq a0 a1 x5_1 = some r) ∧ Aside0 (kq ≤ k) ∧ Drawn0 w w')
 case atStart => exact ⟨(0), (by first | rfl | (simp; done) | (simp [*]; done)), H', ⟨Nat.le_refl _⟩, by repeat (first | exact Drawn0.refl _ | apply Drawn0.step)⟩
 case round =>
  clear H'
  obtain ⟨x5_1, rfl, HA, HK1, ⟨m1, rfl⟩⟩ := hrel
  cases gk with
  | zero => exact absurd HA.out (by simp [gronx_zzContainsAny.l0])
  | succ k1 =>
   have H := HA.out
   clear HA
   simp only [gronx_zzContainsAny.l0] at H
   by_cases c3 : x5_1 < (a0.size : Int)
   ·rw [if_pos c3] at H
    have c3b0 : decide (x5_1 < (a0.size : Int)) = true := decide_eq_true c3
    clear c3
    have H' := Aside0.mk H
    clear H
    go_wp2
    repeat (go_quiet (fail); try go_wp2)
    go_loopg [6] k1 (fun kq v6 w' => ∃ (x6_2 : Int), v6 = .int .i64 x6_2 ∧ Aside0 (gronx_zzContainsAny.l1 kq a0 a1 x5_1 x6_2 = some r) ∧ Aside0 (kq ≤ k1) ∧ Drawn0 w w')
    case atStart => exact ⟨(0), (by first | rfl | (simp; done) | (simp [*]; done)), H', ⟨Nat.le_refl _⟩, by repeat (first | exact Drawn0.refl _ | apply Drawn0.step)⟩
    case round =>
     clear H'
     obtain ⟨x6_2, rfl, HA, HK2, ⟨m2, rfl⟩⟩ := hrel
     cases gk with
     | zero => exact absurd HA.out (by simp [gronx_zzContainsAny.l1])
     | succ k2 =>
      have H := HA.out
      clear HA
      simp only [gronx_zzContainsAny.l1] at H
      by_cases c4 : x6_2 < (a1.size : Int)
      ·rw [if_pos c4] at H
       have c4b0 : decide (x6_2 < (a1.size : Int)) = true := decide_eq_true c4
       clear c4
       by_cases c5 : 0 ≤ x5_1
       ·rw [if_pos c5] at H
        have c5b0 : decide (0 ≤ x5_1) = true := decide_eq_true c5
        clear c5
        by_cases c6 : x5_1 < (a0.size : Int)
        ·rw [if_pos c6] at H
         have c6b0 : decide (x5_1 < (a0.size : Int)) = true := decide_eq_true c6
         clear c6
         by_cases c8 : 0 ≤ x6_2
         ·rw [if_pos c8] at H
          have c8b0 : decide (0 ≤ x6_2) = true := decide_eq_true c8
          clear c8
          by_cases c10 : (bt a0 x5_1) = (bt a1 x6_2)
          ·rw [if_pos c10] at H
           have c10b0 : ((bt a0 x5_1) == (bt a1 x6_2)) = true := beq_iff_eq.mpr c10
           have c10b1 : ((bt a0 x5_1) != (bt a1 x6_2)) = false := bne_eq_false_iff_eq.mpr c10
           clear c10
           obtain rfl := Option.some.inj H
           have p7 : 0 ≤ (x5_1 : Int) := of_decide_eq_true (by first | (with_reducible assumption) | assumption)
           have q7 : x5_1 < (a0.size : Int) := of_decide_eq_true (by first | (with_reducible assumption) | assumption)
           have hx7 := bt_at a0 x5_1
           replace p7 := eq_true p7
           replace q7 := eq_true q7
           have p9 : 0 ≤ (x6_2 : Int) := of_decide_eq_true (by first | (with_reducible assumption) | assumption)
           have q9 : x6_2 < (a1.size : Int) := of_decide_eq_true (by first | (with_reducible assumption) | assumption)
           have hx9 := bt_at a1 x6_2
           replace p9 := eq_true p9
           replace q9 := eq_true q9
           go_wp2
           repeat (go_quiet (fail); try go_wp2)
           go_ret
           exact ⟨by first | rfl | (simp; done) | (simp [*]; done), by repeat (first | exact Drawn0.refl _ | apply Drawn0.step)⟩
          ·rw [if_neg c10] at H
           have c10b0 : ((bt a0 x5_1) == (bt a1 x6_2)) = false := beq_eq_false_iff_ne.mpr c10
           have c10b1 : ((bt a0 x5_1) != (bt a1 x6_2)) = true := bne_iff_ne.mpr c10
           have H' := Aside0.mk H
           clear H
           have p7 : 0 ≤ (x5_1 : Int) := of_decide_eq_true (by first | (with_reducible assumption) | assumption)
           have q7 : x5_1 < (a0.size : Int) := of_decide_eq_true (by first | (with_reducible assumption) | assumption)
           have hx7 := bt_at a0 x5_1
           replace p7 := eq_true p7
           replace q7 := eq_true q7
           have p9 : 0 ≤ (x6_2 : Int) := of_decide_eq_true (by first | (with_reducible assumption) | assumption)
           have q9 : x6_2 < (a1.size : Int) := of_decide_eq_true (by first | (with_reducible assumption) | assumption)
           have hx9 := bt_at a1 x6_2
           replace p9 := eq_true p9
           replace q9 := eq_true q9
           go_wp2
           repeat (go_quiet (fail); try go_wp2)
           go_roundg k2
           case measure => have := HK1.out; have := HK2.out; omega
           case rel => exact ⟨(wrap64 (x6_2 + 1)), (by first | rfl | (simp; done) | (simp [*]; done)), H', ⟨by have := HK1.out; have := HK2.out; omega⟩, by repeat (first | exact Drawn0.refl _ | apply Drawn0.step)⟩
         ·rw [if_neg c8] at H
          exact absurd H (by simp)
        ·rw [if_neg c6] at H
         exact absurd H (by simp)
       ·rw [if_neg c5] at H
        exact absurd H (by simp)
      ·rw [if_neg c4] at H
       have c4b0 : decide (x6_2 < (a1.size : Int)) = false := decide_eq_false c4
       clear c4
       have H' := Aside0.mk H
       clear H
       go_wp2
       repeat (go_quiet (fail); try go_wp2)
       go_roundg k2
       case measure => have := HK1.out; have := HK2.out; omega
       case rel => exact ⟨(wrap64 (x5_1 + 1)), (by first | rfl | (simp; done) | (simp [*]; done)), H', ⟨by have := HK1.out; have := HK2.out; omega⟩, by repeat (first | exact Drawn0.refl _ | apply Drawn0.step)⟩
   ·rw [if_neg c3] at H
    have c3b0 : decide (x5_1 < (a0.size : Int)) = false := decide_eq_false c3
    clear c3
    obtain rfl := Option.some.inj H
    go_wp2
    repeat (go_quiet (fail); try go_wp2)
    go_ret
    exact ⟨by first | rfl | (simp; done) | (simp [*]; done), by repeat (first | exact Drawn0.refl _ | apply Drawn0.step)⟩
end Go.Proofs.YtemgofomhjabpaaGreatDoor.Core
namespace Go.Proofs.YtemgofomhjabpaaGreatDoor.Core
open Go.RowKit Go.Proofs.YtemgofomhjabpaaGreatDoorW.PrintWords
def ErrV (er : Bool) (ev : Value) : Prop := (er = false ∧ ev = .nilIface) ∨ (er = true ∧ ∃ t v, ev = .iface t v)
def OffC (c : Nat) (val : Int) (pos : Nat) (o : ByteArray) (b er : Bool) : Prop := ∀ w, Calls Tryz.prog 117 #[.pointer (some ⟨c, 0, none⟩), .string o, .int .i64 val, .int .i64 (pos : Int)] w fun e w' => ∃ ev, e = .returned (.tuple #[.bool b, ev]) ∧ ErrV er ev ∧ Below w.heap.size w w'
theorem ErrV.nil {ev : Value} (h : ErrV false ev) : ev = .nilIface := by rcases h with ⟨_, h⟩ | ⟨h, _⟩ <;> simp_all
theorem ErrV.err {ev : Value} (h : ErrV true ev) : ∃ t v, ev = .iface t v := by rcases h with ⟨h, _⟩ | ⟨_, h⟩ <;> simp_all
def DueL (c : Nat) (val : Int) (pos : Nat) : List ByteArray → Bool → Bool → Prop
 | [], b, er => b = false ∧ er = false
 | o :: t, b, er => ∃ b1 e1, OffC c val pos o b1 e1 ∧ (if b1 = true ∨ e1 = true then b = b1 ∧ er = e1 else DueL c val pos t b er)
theorem rdOf_nat (xs : List ByteArray) (j : Nat) (h : j < xs.length) : rdOf ByteArray.empty xs (j : Int) = xs[j] := by simp [rdOf, h]
def SX (n : Nat) (x : Int) (w' : World) : Prop := n < w'.heap.size ∧ w'.cell? ⟨n, 0, none⟩ = some (.int .u64 0) ∧ w'.cell? ⟨n, 1, none⟩ = some (.int .i64 x) ∧ w'.cell? ⟨n, 2, none⟩ = some (.pointer none)
theorem SX.below {n : Nat} {x : Int} {a b : World} (hb : Below a.heap.size a b) (hS : SX n x a) : SX n x b := ⟨Nat.lt_of_lt_of_le hS.1 hb.size, cell_after hb hS.2.1, cell_after hb hS.2.2.1, cell_after hb hS.2.2.2⟩
set_option maxRecDepth 100000 in
theorem ck_other (c : Nat) {x y mo d h mi s : Int} (M : Moment' x y mo d h mi s) (seg : ByteArray) (pos : Nat) (hp : pos < 7) (h3 : pos ≠ 3) (h5 : pos ≠ 5) (k : Nat) (offs : List ByteArray) (hs : gronx_zzSplit.f k seg ⟨#[44]⟩ = some offs) (hn : offs.length < 1000000)
  (b er : Bool) (hD : DueL c (posV y mo d h mi s pos) pos offs b er) (w : World) (hc0 : w.cell? ⟨c, 0, none⟩ = some (.int .u64 0)) (hc1 : w.cell? ⟨c, 1, none⟩ = some (.int .i64 x)) (hc2 : w.cell? ⟨c, 2, none⟩ = some (.pointer none)) :
  Calls Tryz.prog 111 #[.pointer (some ⟨c, 0, none⟩), .string seg, .int .i64 (pos : Int)] w fun e w' => ∃ ev, e = .returned (.tuple #[.bool b, ev]) ∧ ErrV er ev ∧ Below w.heap.size w w' := by
 have e3 : ((pos : Int) == 3) = false := by simp; omega
 have e5 : ((pos : Int) == 5) = false := by simp; omega
 have M := Aside0.mk M
 have hs := Aside0.mk hs
 have hD := Aside0.mk hD
 have hp := Aside0.mk hp
 go_enter Tryz.func111, Tryz.ntmps111
 go_wp2_with (go_at_call 112; refine (getRef_w c x _ hc0 hc1 hc2).mono ?_; rintro e w1 ⟨rfl, hb1⟩)
 go_region_held (fun w' => w1.heap.size < w'.heap.size ∧ w'.cell? ⟨w1.heap.size, 0, none⟩ = some (.int .u64 0) ∧ w'.cell? ⟨w1.heap.size, 1, none⟩ = some (.int .i64 x) ∧ w'.cell? ⟨w1.heap.size, 2, none⟩ = some (.pointer none))
  (first | exact SX.below hb2 (by assumption) | exact SX.below hb3 (by assumption) | go_keep | (trace_state; fail)) (first | (go_at_call 114; refine (val_w M.out pos hp.out _).mono ?_; rintro e w2 ⟨rfl, hb2⟩) | (go_at_call 115; refine (location_any x _).mono ?_; rintro e w3 ⟨bl, rfl, hlo, hlu, hb3⟩))
 rename_i hHeld
 clear hHeld
 have HB : Below w.heap.size w w3 := (below_step (below_step (below_drew1 (below_alloc hb1 _)) hb2) hb3)
 have HB := Aside0.mk HB
 clear hb1 hb2 hb3 hlo hlu hc0 hc1 hc2
 go_wp2_with (go_at_call 62; refine (gronx_zzSplit.calls k seg ⟨#[44]⟩ offs _ hs.out).mono ?_; rintro e w4 ⟨v0, rfl, hR, hb4⟩; obtain ⟨A, cc, rfl⟩ := Kd.R_slice hR)
 have HR := Aside0.mk (Kd.R_reads' hR).2.2
 have HB4 := Aside0.mk (below_step HB.out hb4)
 clear hR hb4 HB
 go_loopg [31] offs.length (fun kq v31 w' => ∃ (j : Nat), v31 = .int .i64 (j : Int) ∧ Aside0 (DueL c (posV y mo d h mi s pos) pos (offs.drop j) b er) ∧ Aside0 (kq + j = offs.length) ∧ Aside0 (Below w4.heap.size w4 w'))
 case atStart => exact ⟨0, rfl, hD, ⟨rfl⟩, ⟨by repeat (first | exact Below.refl _ _ | apply below_drew1 | apply pw_below_drewN)⟩⟩
 case round =>
  clear hD
  obtain ⟨j, rfl, HD, HK, HW⟩ := hrel
  by_cases hj : j < offs.length
  ·have q : ((j : Int) < (offs.length : Int)) := by omega
   have p0 : 0 ≤ (j : Int) := by omega
   have q0 : decide ((j : Int) < (offs.length : Int)) = true := decide_eq_true q
   obtain ⟨ad, rfl, hx⟩ := Kd.at_string HR.out (j : Int) p0 q
   replace hx := cell_after HW.out hx
   rw [rdOf_nat _ _ hj, Int.toNat_natCast] at hx
   have HD' := HD.out
   rw [List.drop_eq_getElem_cons hj] at HD'
   obtain ⟨b1, e1, hoff, hif⟩ := HD'
   have hoff := Aside0.mk hoff
   have hif := Aside0.mk hif
   clear HD
   have hb : ∀ W, Below W.heap.size W W := fun W => Below.refl _ _
   cases b1 with
   | true =>
    obtain ⟨rfl, rfl⟩ : b = true ∧ er = e1 := by have := hif.out; simpa using this
    go_wp2_with (go_at_call 117; refine (hoff.out _).mono ?_; rintro e w5 ⟨ev, rfl, hev, hb5⟩)
    go_ret2
    exact ⟨ev, rfl, hev, below_step (below_step HB4.out HW.out) hb5⟩
   | false =>
    cases e1 with
    | true =>
     obtain ⟨rfl, rfl⟩ : b = false ∧ er = true := by have := hif.out; simpa using this
     go_wp2_with (go_at_call 117; refine (hoff.out _).mono ?_; rintro e w5 ⟨ev, rfl, hev, hb5⟩; obtain ⟨te, ve, rfl⟩ := ErrV.err hev)
     go_ret2
     exact ⟨_, rfl, hev, below_step (below_step HB4.out HW.out) hb5⟩
    | false =>
     have hr : DueL c (posV y mo d h mi s pos) pos (offs.drop (j + 1)) b er := by have := hif.out; simpa using this
     have hr := Aside0.mk hr
     go_wp2_with (go_at_call 117; refine (hoff.out _).mono ?_; rintro e w5 ⟨ev, rfl, hev, hb5⟩; obtain rfl := ErrV.nil hev)
     go_roundg (gk - 1)
     case measure => have := HK.out; omega
     case rel => exact ⟨j + 1, by simp, hr, ⟨by have := HK.out; omega⟩, ⟨by repeat (first | exact below_step HW.out hb5 | apply below_drew1 | apply pw_below_drewN)⟩⟩
  ·have q0 : decide ((j : Int) < (offs.length : Int)) = false := decide_eq_false (by omega)
   have HD' := HD.out
   rw [List.drop_eq_nil_of_le (by omega)] at HD'
   obtain ⟨rfl, rfl⟩ := HD'
   go_wp2
   go_ret2
   exact ⟨_, rfl, .inl ⟨rfl, rfl⟩, below_step HB4.out HW.out⟩
theorem below_drewNd {w W : World} (h : Below w.heap.size w W) (n : Nat) : Below w.heap.size w (W.drewN n) := below_drewN h n
set_option maxRecDepth 100000 in
set_option maxHeartbeats 800000 in
theorem ck_three (c : Nat) {x y mo d h mi s : Int} (M : Moment' x y mo d h mi s) (seg : ByteArray) (pos : Nat) (hp : pos < 7) (h3 : pos = 3) (k : Nat) (offs : List ByteArray) (hs : gronx_zzSplit.f k seg ⟨#[44]⟩ = some offs) (hn : offs.length < 1000000) (hm : ∀ o ∈ offs, gronx_zzContainsAny.f k o ⟨#[76, 87, 35]⟩ = some false)
  (b er : Bool) (hD : DueL c (posV y mo d h mi s pos) pos offs b er) (w : World) (hc0 : w.cell? ⟨c, 0, none⟩ = some (.int .u64 0)) (hc1 : w.cell? ⟨c, 1, none⟩ = some (.int .i64 x)) (hc2 : w.cell? ⟨c, 2, none⟩ = some (.pointer none)) :
  Calls Tryz.prog 111 #[.pointer (some ⟨c, 0, none⟩), .string seg, .int .i64 (pos : Int)] w fun e w' => ∃ ev, e = .returned (.tuple #[.bool b, ev]) ∧ ErrV er ev ∧ Below w.heap.size w w' := by
 have e3 : ((pos : Int) == 3) = true := by simp; omega
 have e5 : ((pos : Int) == 5) = false := by simp; omega
 clear h3
 have M := Aside0.mk M
 have hs := Aside0.mk hs
 have hD := Aside0.mk hD
 have hp := Aside0.mk hp
 go_enter Tryz.func111, Tryz.ntmps111
 go_wp2_with (go_at_call 112; refine (getRef_w c x _ hc0 hc1 hc2).mono ?_; rintro e w1 ⟨rfl, hb1⟩)
 go_region_held (fun w' => w1.heap.size < w'.heap.size ∧ w'.cell? ⟨w1.heap.size, 0, none⟩ = some (.int .u64 0) ∧ w'.cell? ⟨w1.heap.size, 1, none⟩ = some (.int .i64 x) ∧ w'.cell? ⟨w1.heap.size, 2, none⟩ = some (.pointer none))
  (first | exact SX.below hb2 (by assumption) | exact SX.below hb3 (by assumption) | go_keep | (trace_state; fail)) (first | (go_at_call 114; refine (val_w M.out pos hp.out _).mono ?_; rintro e w2 ⟨rfl, hb2⟩) | (go_at_call 115; refine (location_any x _).mono ?_; rintro e w3 ⟨bl, rfl, hlo, hlu, hb3⟩))
 rename_i hHeld
 clear hHeld
 have HB : Below w.heap.size w w3 := (below_step (below_step (below_drew1 (below_alloc hb1 _)) hb2) hb3)
 have HB := Aside0.mk HB
 clear hb1 hb2 hb3 hlo hlu hc0 hc1 hc2
 go_wp2_with (go_at_call 62; refine (gronx_zzSplit.calls k seg ⟨#[44]⟩ offs _ hs.out).mono ?_; rintro e w4 ⟨v0, rfl, hR, hb4⟩; obtain ⟨A, cc, rfl⟩ := Kd.R_slice hR)
 have HR := Aside0.mk (Kd.R_reads' hR).2.2
 have HB4 := Aside0.mk (below_step HB.out hb4)
 clear hR hb4 HB
 go_loopg [31] offs.length (fun kq v31 w' => ∃ (j : Nat), v31 = .int .i64 (j : Int) ∧ Aside0 (DueL c (posV y mo d h mi s pos) pos (offs.drop j) b er) ∧ Aside0 (kq + j = offs.length) ∧ Aside0 (Below w4.heap.size w4 w'))
 case atStart => exact ⟨0, rfl, hD, ⟨rfl⟩, ⟨by repeat (first | exact Below.refl _ _ | apply below_drew1 | apply pw_below_drewN)⟩⟩
 case round =>
  clear hD
  obtain ⟨j, rfl, HD, HK, HW⟩ := hrel
  by_cases hj : j < offs.length
  ·have q : ((j : Int) < (offs.length : Int)) := by omega
   have p0 : 0 ≤ (j : Int) := by omega
   have q0 : decide ((j : Int) < (offs.length : Int)) = true := decide_eq_true q
   obtain ⟨ad, rfl, hx⟩ := Kd.at_string HR.out (j : Int) p0 q
   replace hx := cell_after HW.out hx
   rw [rdOf_nat _ _ hj, Int.toNat_natCast] at hx
   have HD' := HD.out
   rw [List.drop_eq_getElem_cons hj] at HD'
   obtain ⟨b1, e1, hoff, hif⟩ := HD'
   have hmo := Aside0.mk (hm _ (List.getElem_mem hj))
   have hoff := Aside0.mk hoff
   have hif := Aside0.mk hif
   clear HD
   have hb : ∀ W, Below W.heap.size W W := fun W => Below.refl _ _
   cases b1 with
   | true =>
    obtain ⟨rfl, rfl⟩ : b = true ∧ er = e1 := by have := hif.out; simpa using this
    go_wp2_with (first | (go_at_call 116; refine (gronx_zzContainsAny.calls k _ _ false _ hmo.out).mono ?_; rintro e w' ⟨rfl, ⟨nd, rfl⟩⟩) | (go_at_call 117; refine (hoff.out _).mono ?_; rintro e w5 ⟨ev, rfl, hev, hb5⟩))
    go_ret2
    exact ⟨ev, rfl, hev, below_step (below_drewNd (below_step HB4.out HW.out) _) hb5⟩
   | false =>
    cases e1 with
    | true =>
     obtain ⟨rfl, rfl⟩ : b = false ∧ er = true := by have := hif.out; simpa using this
     go_wp2_with (first | (go_at_call 116; refine (gronx_zzContainsAny.calls k _ _ false _ hmo.out).mono ?_; rintro e w' ⟨rfl, ⟨nd, rfl⟩⟩) | (go_at_call 117; refine (hoff.out _).mono ?_; rintro e w5 ⟨ev, rfl, hev, hb5⟩; obtain ⟨te, ve, rfl⟩ := ErrV.err hev))
     go_ret2
     exact ⟨_, rfl, hev, below_step (below_drewNd (below_step HB4.out HW.out) _) hb5⟩
    | false =>
     have hr : DueL c (posV y mo d h mi s pos) pos (offs.drop (j + 1)) b er := by have := hif.out; simpa using this
     have hr := Aside0.mk hr
     go_wp2_with (first | (go_at_call 116; refine (gronx_zzContainsAny.calls k _ _ false _ hmo.out).mono ?_; rintro e w' ⟨rfl, ⟨nd, rfl⟩⟩) | (go_at_call 117; refine (hoff.out _).mono ?_; rintro e w5 ⟨ev, rfl, hev, hb5⟩; obtain rfl := ErrV.nil hev))
     go_roundg (gk - 1)
     case measure => have := HK.out; omega
     case rel => exact ⟨j + 1, by simp, hr, ⟨by have := HK.out; omega⟩, ⟨by repeat (first | exact below_step (below_drewNd HW.out _) hb5 | apply below_drew1 | apply pw_below_drewN)⟩⟩
  ·have q0 : decide ((j : Int) < (offs.length : Int)) = false := decide_eq_false (by omega)
   have HD' := HD.out
   rw [List.drop_eq_nil_of_le (by omega)] at HD'
   obtain ⟨rfl, rfl⟩ := HD'
   go_wp2
   go_ret2
   exact ⟨_, rfl, .inl ⟨rfl, rfl⟩, below_step HB4.out HW.out⟩
set_option maxRecDepth 100000 in
set_option maxHeartbeats 800000 in
theorem ck_five (c : Nat) {x y mo d h mi s : Int} (M : Moment' x y mo d h mi s) (seg : ByteArray) (pos : Nat) (hp : pos < 7) (h5 : pos = 5) (k : Nat) (offs : List ByteArray) (hs : gronx_zzSplit.f k seg ⟨#[44]⟩ = some offs) (hn : offs.length < 1000000) (hm : ∀ o ∈ offs, gronx_zzContainsAny.f k o ⟨#[76, 87, 35]⟩ = some false)
  (b er : Bool) (hD : DueL c (posV y mo d h mi s pos) pos offs b er) (w : World) (hc0 : w.cell? ⟨c, 0, none⟩ = some (.int .u64 0)) (hc1 : w.cell? ⟨c, 1, none⟩ = some (.int .i64 x)) (hc2 : w.cell? ⟨c, 2, none⟩ = some (.pointer none)) :
  Calls Tryz.prog 111 #[.pointer (some ⟨c, 0, none⟩), .string seg, .int .i64 (pos : Int)] w fun e w' => ∃ ev, e = .returned (.tuple #[.bool b, ev]) ∧ ErrV er ev ∧ Below w.heap.size w w' := by
 have e3 : ((pos : Int) == 3) = false := by simp; omega
 have e5 : ((pos : Int) == 5) = true := by simp; omega
 clear h5
 have M := Aside0.mk M
 have hs := Aside0.mk hs
 have hD := Aside0.mk hD
 have hp := Aside0.mk hp
 go_enter Tryz.func111, Tryz.ntmps111
 go_wp2_with (go_at_call 112; refine (getRef_w c x _ hc0 hc1 hc2).mono ?_; rintro e w1 ⟨rfl, hb1⟩)
 go_region_held (fun w' => w1.heap.size < w'.heap.size ∧ w'.cell? ⟨w1.heap.size, 0, none⟩ = some (.int .u64 0) ∧ w'.cell? ⟨w1.heap.size, 1, none⟩ = some (.int .i64 x) ∧ w'.cell? ⟨w1.heap.size, 2, none⟩ = some (.pointer none))
  (first | exact SX.below hb2 (by assumption) | exact SX.below hb3 (by assumption) | go_keep | (trace_state; fail)) (first | (go_at_call 114; refine (val_w M.out pos hp.out _).mono ?_; rintro e w2 ⟨rfl, hb2⟩) | (go_at_call 115; refine (location_any x _).mono ?_; rintro e w3 ⟨bl, rfl, hlo, hlu, hb3⟩))
 rename_i hHeld
 clear hHeld
 have HB : Below w.heap.size w w3 := (below_step (below_step (below_drew1 (below_alloc hb1 _)) hb2) hb3)
 have HB := Aside0.mk HB
 clear hb1 hb2 hb3 hlo hlu hc0 hc1 hc2
 go_wp2_with (go_at_call 62; refine (gronx_zzSplit.calls k seg ⟨#[44]⟩ offs _ hs.out).mono ?_; rintro e w4 ⟨v0, rfl, hR, hb4⟩; obtain ⟨A, cc, rfl⟩ := Kd.R_slice hR)
 have HR := Aside0.mk (Kd.R_reads' hR).2.2
 have HB4 := Aside0.mk (below_step HB.out hb4)
 clear hR hb4 HB
 go_loopg [31] offs.length (fun kq v31 w' => ∃ (j : Nat), v31 = .int .i64 (j : Int) ∧ Aside0 (DueL c (posV y mo d h mi s pos) pos (offs.drop j) b er) ∧ Aside0 (kq + j = offs.length) ∧ Aside0 (Below w4.heap.size w4 w'))
 case atStart => exact ⟨0, rfl, hD, ⟨rfl⟩, ⟨by repeat (first | exact Below.refl _ _ | apply below_drew1 | apply pw_below_drewN)⟩⟩
 case round =>
  clear hD
  obtain ⟨j, rfl, HD, HK, HW⟩ := hrel
  by_cases hj : j < offs.length
  ·have q : ((j : Int) < (offs.length : Int)) := by omega
   have p0 : 0 ≤ (j : Int) := by omega
   have q0 : decide ((j : Int) < (offs.length : Int)) = true := decide_eq_true q
   obtain ⟨ad, rfl, hx⟩ := Kd.at_string HR.out (j : Int) p0 q
   replace hx := cell_after HW.out hx
   rw [rdOf_nat _ _ hj, Int.toNat_natCast] at hx
   have HD' := HD.out
   rw [List.drop_eq_getElem_cons hj] at HD'
   obtain ⟨b1, e1, hoff, hif⟩ := HD'
   have hmo := Aside0.mk (hm _ (List.getElem_mem hj))
   have hoff := Aside0.mk hoff
   have hif := Aside0.mk hif
   clear HD
   have hb : ∀ W, Below W.heap.size W W := fun W => Below.refl _ _
   cases b1 with
   | true =>
    obtain ⟨rfl, rfl⟩ : b = true ∧ er = e1 := by have := hif.out; simpa using this
    go_wp2_with (first | (go_at_call 116; refine (gronx_zzContainsAny.calls k _ _ false _ hmo.out).mono ?_; rintro e w' ⟨rfl, ⟨nd, rfl⟩⟩) | (go_at_call 117; refine (hoff.out _).mono ?_; rintro e w5 ⟨ev, rfl, hev, hb5⟩))
    go_ret2
    exact ⟨ev, rfl, hev, below_step (below_drewNd (below_step HB4.out HW.out) _) hb5⟩
   | false =>
    cases e1 with
    | true =>
     obtain ⟨rfl, rfl⟩ : b = false ∧ er = true := by have := hif.out; simpa using this
     go_wp2_with (first | (go_at_call 116; refine (gronx_zzContainsAny.calls k _ _ false _ hmo.out).mono ?_; rintro e w' ⟨rfl, ⟨nd, rfl⟩⟩) | (go_at_call 117; refine (hoff.out _).mono ?_; rintro e w5 ⟨ev, rfl, hev, hb5⟩; obtain ⟨te, ve, rfl⟩ := ErrV.err hev))
     go_ret2
     exact ⟨_, rfl, hev, below_step (below_drewNd (below_step HB4.out HW.out) _) hb5⟩
    | false =>
     have hr : DueL c (posV y mo d h mi s pos) pos (offs.drop (j + 1)) b er := by have := hif.out; simpa using this
     have hr := Aside0.mk hr
     go_wp2_with (first | (go_at_call 116; refine (gronx_zzContainsAny.calls k _ _ false _ hmo.out).mono ?_; rintro e w' ⟨rfl, ⟨nd, rfl⟩⟩) | (go_at_call 117; refine (hoff.out _).mono ?_; rintro e w5 ⟨ev, rfl, hev, hb5⟩; obtain rfl := ErrV.nil hev))
     go_roundg (gk - 1)
     case measure => have := HK.out; omega
     case rel => exact ⟨j + 1, by simp, hr, ⟨by have := HK.out; omega⟩, ⟨by repeat (first | exact below_step (below_drewNd HW.out _) hb5 | apply below_drew1 | apply pw_below_drewN)⟩⟩
  ·have q0 : decide ((j : Int) < (offs.length : Int)) = false := decide_eq_false (by omega)
   have HD' := HD.out
   rw [List.drop_eq_nil_of_le (by omega)] at HD'
   obtain ⟨rfl, rfl⟩ := HD'
   go_wp2
   go_ret2
   exact ⟨_, rfl, .inl ⟨rfl, rfl⟩, below_step HB4.out HW.out⟩
end Go.Proofs.YtemgofomhjabpaaGreatDoor.Core
namespace Go.Proofs.YtemgofomhjabpaaGreatDoor.Core
open Go.RowKit Go.Proofs.YtemgofomhjabpaaGreatDoorW.PrintWords Go.Proofs.YtemgofomhjabpaaGreatDoorW.PrintLast Go.Proofs.YtemgofomhjabpaaGreatDoorW.PrintMore
attribute [local go_sem] max2_int min2_int max_two min_two max_three min_three max_four min_four   -- for this text's walks alone
set_option linter.unusedVariables false
set_option linter.unusedSimpArgs false
mutual
def gronx_zzTrim.j1 : Nat → ByteArray → Option (ByteArray)
 | 0, _ => none
 | k + 1, x0 => gronx_zzTrim.l1 k x0
def gronx_zzTrim.l1 : Nat → ByteArray → Option (ByteArray)
 | 0, _ => none
 | k + 1, x0 => if (x0.size : Int) > 0 then (if 0 ≤ (wrap64 ((x0.size : Int) - 1)) then (if (wrap64 ((x0.size : Int) - 1)) < (x0.size : Int) then (if (bt x0 (wrap64 ((x0.size : Int) - 1))) = 32 then (if (wrap64 ((x0.size : Int) - 1)) ≤ (x0.size : Int) then (gronx_zzTrim.l1 k (x0.extract 0 ((wrap64 ((x0.size : Int) - 1)) : Int).toNat)) else (none)) else (if (bt x0 (wrap64 ((x0.size : Int) - 1))) = 9 then (if (wrap64 ((x0.size : Int) - 1)) ≤ (x0.size : Int) then (gronx_zzTrim.l1 k (x0.extract 0 ((wrap64 ((x0.size : Int) - 1)) : Int).toNat)) else (none)) else (some x0))) else (none)) else (none)) else (some x0)
def gronx_zzTrim.l0 : Nat → ByteArray → Option (ByteArray)
 | 0, _ => none
 | k + 1, x0 => if (x0.size : Int) > 0 then (if 0 < (x0.size : Int) then (if (bt x0 0) = 32 then (if 1 ≤ (x0.size : Int) then (gronx_zzTrim.l0 k (x0.extract 1 x0.size)) else (none)) else (if (bt x0 0) = 9 then (if 1 ≤ (x0.size : Int) then (gronx_zzTrim.l0 k (x0.extract 1 x0.size)) else (none)) else (gronx_zzTrim.j1 k x0))) else (none)) else (gronx_zzTrim.j1 k x0)
end
def gronx_zzTrim.f (k : Nat) (a0 : ByteArray) : Option (ByteArray) := gronx_zzTrim.l0 k a0
theorem gronx_zzTrim.mono_l : ∀ k, (∀ y0, LeO (gronx_zzTrim.j1 k y0) (gronx_zzTrim.j1 (k + 1) y0)) ∧ (∀ y0, LeO (gronx_zzTrim.l1 k y0) (gronx_zzTrim.l1 (k + 1) y0)) ∧ (∀ y0, LeO (gronx_zzTrim.l0 k y0) (gronx_zzTrim.l0 (k + 1) y0))
 | 0 => ⟨fun _ r h => by simp [gronx_zzTrim.j1] at h, fun _ r h => by simp [gronx_zzTrim.l1] at h, fun _ r h => by simp [gronx_zzTrim.l0] at h⟩
 | k + 1 => by
  obtain ⟨ih0, ih1, ih2⟩ := gronx_zzTrim.mono_l k
  refine ⟨?_, ?_, ?_⟩
  ·intro y0
   unfold gronx_zzTrim.j1
   repeat' first
   | (with_reducible exact ih0 _)
   | (with_reducible exact ih1 _)
   | (with_reducible exact ih2 _)
   | (with_reducible exact LeO.refl _)
   | (with_reducible exact LeO.none _)
   | (with_reducible refine LeO.ite ?_ ?_)
   | (with_reducible refine LeO.bind ?_ (fun _ => ?_))
   | exact ih0 _
   | exact ih1 _
   | exact ih2 _
   | exact LeO.none _
   | refine LeO.ite ?_ ?_
   | refine LeO.bind ?_ (fun _ => ?_)
  ·intro y0
   unfold gronx_zzTrim.l1
   repeat' first
   | (with_reducible exact ih0 _)
   | (with_reducible exact ih1 _)
   | (with_reducible exact ih2 _)
   | (with_reducible exact LeO.refl _)
   | (with_reducible exact LeO.none _)
   | (with_reducible refine LeO.ite ?_ ?_)
   | (with_reducible refine LeO.bind ?_ (fun _ => ?_))
   | exact ih0 _
   | exact ih1 _
   | exact ih2 _
   | exact LeO.none _
   | refine LeO.ite ?_ ?_
   | refine LeO.bind ?_ (fun _ => ?_)
  ·intro y0
   unfold gronx_zzTrim.l0
   repeat' first
   | (with_reducible exact ih0 _)
   | (with_reducible exact ih1 _)
   | (with_reducible exact ih2 _)
   | (with_reducible exact LeO.refl _)
   | (with_reducible exact LeO.none _)
   | (with_reducible refine LeO.ite ?_ ?_)
   | (with_reducible refine LeO.bind ?_ (fun _ => ?_))
   | exact ih0 _
   | exact ih1 _
   | exact ih2 _
   | exact LeO.none _
   | refine LeO.ite ?_ ?_
   | refine LeO.bind ?_ (fun _ => ?_)
theorem gronx_zzTrim.mono : ∀ a0 k, LeO (gronx_zzTrim.f k a0) (gronx_zzTrim.f (k + 1) a0) := by
 intro a0 k
 obtain ⟨ih0, ih1, ih2⟩ := gronx_zzTrim.mono_l k
 unfold gronx_zzTrim.f
 repeat' first
   | (with_reducible exact ih0 _)
   | (with_reducible exact ih1 _)
   | (with_reducible exact ih2 _)
   | (with_reducible exact LeO.refl _)
   | (with_reducible exact LeO.none _)
   | (with_reducible refine LeO.ite ?_ ?_)
   | (with_reducible refine LeO.bind ?_ (fun _ => ?_))
   | exact ih0 _
   | exact ih1 _
   | exact ih2 _
   | exact LeO.none _
   | refine LeO.ite ?_ ?_
   | refine LeO.bind ?_ (fun _ => ?_)
set_option maxHeartbeats 8000000 in
set_option maxRecDepth 100000 in
theorem gronx_zzTrim.calls (k : Nat) (a0 : ByteArray) (r : ByteArray) (w : World) (h : gronx_zzTrim.f k a0 = some r) :
  Calls Tryz.prog 56 #[.string a0] w fun e w' => e = .returned (.string r) ∧ Drawn0 w w' := by
 have H : (gronx_zzTrim.l0 k a0) = some r := h
 clear h
 have HC2 := Aside0.mk H
 clear H
 go_enter Tryz.func56, Tryz.ntmps56
 go_upto_block 0 with (fail)
 go_cut [0] (fun v0 wc => ∃ (kq : Nat) (x0_1 : ByteArray), v0 = .string x0_1 ∧ Aside0 (gronx_zzTrim.j1 kq x0_1 = some r) ∧ Aside0 (kq ≤ k) ∧ Drawn0 w wc)
 case first =>
  have H := HC2.out
  clear HC2
  have H' := Aside0.mk H
  clear H
  go_wp2
  go_loopg [0] k (fun kq v0 w' => ∃ (x0_1 : ByteArray), v0 = .string x0_1 ∧ Aside0 (gronx_zzTrim.l0 kq x0_1 = some r) ∧ Aside0 (kq ≤ k) ∧ Drawn0 w w')
  case atStart => exact ⟨(a0), (by first | rfl | (simp; done) | (simp [*]; done)), H', ⟨Nat.le_refl _⟩, by repeat (first | exact Drawn0.refl _ | apply Drawn0.step)⟩
  case round =>
   clear H'
   obtain ⟨x0_1, rfl, HA, HK1, ⟨m1, rfl⟩⟩ := hrel
   cases gk with
   | zero => exact absurd HA.out (by simp [gronx_zzTrim.l0])
   | succ k1 =>
    have H := HA.out
    clear HA
    simp only [gronx_zzTrim.l0] at H
    by_cases c3 : (x0_1.size : Int) > 0
    ·rw [if_pos c3] at H
     have c3b0 : decide (0 < (x0_1.size : Int)) = true := decide_eq_true c3
     have c3b1 : decide (0 < x0_1.size) = true := decide_eq_true (by omega)
     clear c3
     (first | rw [c3b0] | (simp only [i64_w, i32_w]; rw [c3b0]) | skip)
     by_cases c4 : 0 < (x0_1.size : Int)
     ·rw [if_pos c4] at H
      have c4b0 : decide (0 < (x0_1.size : Int)) = true := decide_eq_true c4
      have c4b1 : decide (0 < x0_1.size) = true := decide_eq_true (by omega)
      clear c4
      by_cases c6 : (bt x0_1 0) = 32
      ·rw [if_pos c6] at H
       have c6b0 : ((bt x0_1 0) == 32) = true := beq_iff_eq.mpr c6
       have c6b1 : ((bt x0_1 0) != 32) = false := bne_eq_false_iff_eq.mpr c6
       clear c6
       by_cases c7 : 1 ≤ (x0_1.size : Int)
       ·rw [if_pos c7] at H
        have c7b0 := eq_true c7
        have c7b1 : decide (1 ≤ (x0_1.size : Int)) = true := decide_eq_true c7
        clear c7
        have H' := Aside0.mk H
        clear H
        have p5 : 0 ≤ (0 : Int) := (by omega)
        have q5 : 0 < x0_1.size := (by have : (0 : Int) < (x0_1.size : Int) := of_decide_eq_true (by first | (with_reducible assumption) | assumption); omega)
        have hx5 : ∀ h : 0 < x0_1.size, ((x0_1[0]'h).toNat : Int) = bt x0_1 0 := bt_at x0_1 0
        clear p5
        have qi5 : (0 < (x0_1.size : Int)) = True := eq_true (of_decide_eq_true (by first | (with_reducible assumption) | assumption))
        replace q5 := eq_true q5
        go_wp2
        go_roundg k1
        case measure => have := HK1.out; omega
        case rel => exact ⟨(x0_1.extract 1 x0_1.size), (by first | rfl | (simp; done) | (simp [*]; done)), H', ⟨by have := HK1.out; omega⟩, by repeat (first | exact Drawn0.refl _ | apply Drawn0.step)⟩
       ·rw [if_neg c7] at H
        exact absurd H (by simp)
      ·rw [if_neg c6] at H
       have c6b0 : ((bt x0_1 0) == 32) = false := beq_eq_false_iff_ne.mpr c6
       have c6b1 : ((bt x0_1 0) != 32) = true := bne_iff_ne.mpr c6
       by_cases c9 : (bt x0_1 0) = 9
       ·rw [if_pos c9] at H
        have c9b0 : ((bt x0_1 0) == 9) = true := beq_iff_eq.mpr c9
        have c9b1 : ((bt x0_1 0) != 9) = false := bne_eq_false_iff_eq.mpr c9
        clear c9
        by_cases c10 : 1 ≤ (x0_1.size : Int)
        ·rw [if_pos c10] at H
         have c10b0 := eq_true c10
         have c10b1 : decide (1 ≤ (x0_1.size : Int)) = true := decide_eq_true c10
         clear c10
         have H' := Aside0.mk H
         clear H
         have p5 : 0 ≤ (0 : Int) := (by omega)
         have q5 : 0 < x0_1.size := (by have : (0 : Int) < (x0_1.size : Int) := of_decide_eq_true (by first | (with_reducible assumption) | assumption); omega)
         have hx5 : ∀ h : 0 < x0_1.size, ((x0_1[0]'h).toNat : Int) = bt x0_1 0 := bt_at x0_1 0
         clear p5
         have qi5 : (0 < (x0_1.size : Int)) = True := eq_true (of_decide_eq_true (by first | (with_reducible assumption) | assumption))
         replace q5 := eq_true q5
         have p8 : 0 ≤ (0 : Int) := (by omega)
         have q8 : 0 < x0_1.size := (by have : (0 : Int) < (x0_1.size : Int) := of_decide_eq_true (by first | (with_reducible assumption) | assumption); omega)
         have hx8 : ∀ h : 0 < x0_1.size, ((x0_1[0]'h).toNat : Int) = bt x0_1 0 := bt_at x0_1 0
         clear p8
         have qi8 : (0 < (x0_1.size : Int)) = True := eq_true (of_decide_eq_true (by first | (with_reducible assumption) | assumption))
         replace q8 := eq_true q8
         go_wp2
         go_roundg k1
         case measure => have := HK1.out; omega
         case rel => exact ⟨(x0_1.extract 1 x0_1.size), (by first | rfl | (simp; done) | (simp [*]; done)), H', ⟨by have := HK1.out; omega⟩, by repeat (first | exact Drawn0.refl _ | apply Drawn0.step)⟩
        ·rw [if_neg c10] at H
         exact absurd H (by simp)
       ·rw [if_neg c9] at H
        have c9b0 : ((bt x0_1 0) == 9) = false := beq_eq_false_iff_ne.mpr c9
        have c9b1 : ((bt x0_1 0) != 9) = true := bne_iff_ne.mpr c9
        have H' := Aside0.mk H
        clear H
        have p5 : 0 ≤ (0 : Int) := (by omega)
        have q5 : 0 < x0_1.size := (by have : (0 : Int) < (x0_1.size : Int) := of_decide_eq_true (by first | (with_reducible assumption) | assumption); omega)
        have hx5 : ∀ h : 0 < x0_1.size, ((x0_1[0]'h).toNat : Int) = bt x0_1 0 := bt_at x0_1 0
        clear p5
        have qi5 : (0 < (x0_1.size : Int)) = True := eq_true (of_decide_eq_true (by first | (with_reducible assumption) | assumption))
        replace q5 := eq_true q5
        have p8 : 0 ≤ (0 : Int) := (by omega)
        have q8 : 0 < x0_1.size := (by have : (0 : Int) < (x0_1.size : Int) := of_decide_eq_true (by first | (with_reducible assumption) | assumption); omega)
        have hx8 : ∀ h : 0 < x0_1.size, ((x0_1[0]'h).toNat : Int) = bt x0_1 0 := bt_at x0_1 0
        clear p8
        have qi8 : (0 < (x0_1.size : Int)) = True := eq_true (of_decide_eq_true (by first | (with_reducible assumption) | assumption))
        replace q8 := eq_true q8
        go_wp2
        go_meet
        case rel => exact ⟨_, (x0_1), (by first | rfl | (simp; done) | (simp [*]; done)), H', ⟨by have := HK1.out; first | omega | exact Nat.le_refl _⟩, by repeat (first | exact Drawn0.refl _ | apply Drawn0.step)⟩
     ·rw [if_neg c4] at H
      exact absurd H (by simp)
    ·rw [if_neg c3] at H
     have c3b0 : decide (0 < (x0_1.size : Int)) = false := decide_eq_false c3
     have c3b1 : decide (0 < x0_1.size) = false := decide_eq_false (by omega)
     clear c3
     (first | rw [c3b0] | (simp only [i64_w, i32_w]; rw [c3b0]) | skip)
     have H' := Aside0.mk H
     clear H
     go_wp2
     go_meet
     case rel => exact ⟨_, (x0_1), (by first | rfl | (simp; done) | (simp [*]; done)), H', ⟨by have := HK1.out; first | omega | exact Nat.le_refl _⟩, by repeat (first | exact Drawn0.refl _ | apply Drawn0.step)⟩
 case rest =>
  clear HC2
  obtain ⟨kq, x0_1, rfl, HA, HJ1, ⟨mc1, rfl⟩⟩ := hcut
  cases kq with
  | zero => exact absurd HA.out (by simp [gronx_zzTrim.j1])
  | succ kj1 =>
   have H := HA.out
   clear HA
   simp only [gronx_zzTrim.j1] at H
   have H' := Aside0.mk H
   clear H
   go_wp2
   go_loopg [0] kj1 (fun kq v0 w' => ∃ (x0_2 : ByteArray), v0 = .string x0_2 ∧ Aside0 (gronx_zzTrim.l1 kq x0_2 = some r) ∧ Aside0 (kq ≤ kj1) ∧ Drawn0 w w')
   case atStart => exact ⟨(x0_1), (by first | rfl | (simp; done) | (simp [*]; done)), H', ⟨Nat.le_refl _⟩, by repeat (first | exact Drawn0.refl _ | apply Drawn0.step)⟩
   case round =>
    clear H'
    obtain ⟨x0_2, rfl, HA, HK2, ⟨m2, rfl⟩⟩ := hrel
    cases gk with
    | zero => exact absurd HA.out (by simp [gronx_zzTrim.l1])
    | succ k2 =>
     have H := HA.out
     clear HA
     simp only [gronx_zzTrim.l1] at H
     by_cases c11 : (x0_2.size : Int) > 0
     ·rw [if_pos c11] at H
      have c11b0 : decide (0 < (x0_2.size : Int)) = true := decide_eq_true c11
      have c11b1 : decide (0 < x0_2.size) = true := decide_eq_true (by omega)
      clear c11
      obtain ⟨ji12, hji12⟩ : ∃ j_ : Int, (wrap64 ((x0_2.size : Int) - 1)) = j_ := ⟨_, rfl⟩
      replace H : (if 0 ≤ (ji12) then (if (ji12) < (x0_2.size : Int) then (if (bt x0_2 (ji12)) = 32 then (if (ji12) ≤ (x0_2.size : Int) then (gronx_zzTrim.l1 k2 (x0_2.extract 0 ((ji12) : Int).toNat)) else (none)) else (if (bt x0_2 (ji12)) = 9 then (if (ji12) ≤ (x0_2.size : Int) then (gronx_zzTrim.l1 k2 (x0_2.extract 0 ((ji12) : Int).toNat)) else (none)) else (some x0_2))) else (none)) else (none)) = some r := by first | (rw [hji12] at H; exact H) | (simp only [hji12] at H ⊢; exact H)
      have hji12w : (IntKind.i64.wrap ((x0_2.size : Int) - 1)) = ji12 := (i64_w _).trans hji12
      by_cases c13 : 0 ≤ (ji12)
      ·rw [if_pos c13] at H
       have c13b0 : decide (0 ≤ (ji12)) = true := decide_eq_true c13
       clear c13
       by_cases c14 : (ji12) < (x0_2.size : Int)
       ·rw [if_pos c14] at H
        have c14b0 : decide ((ji12) < (x0_2.size : Int)) = true := decide_eq_true c14
        clear c14
        by_cases c16 : (bt x0_2 (ji12)) = 32
        ·rw [if_pos c16] at H
         have c16b0 : ((bt x0_2 (ji12)) == 32) = true := beq_iff_eq.mpr c16
         have c16b1 : ((bt x0_2 (ji12)) != 32) = false := bne_eq_false_iff_eq.mpr c16
         clear c16
         have c17b0 := eq_true (of_decide_eq_true (by first | (with_reducible assumption) | assumption) : 0 ≤ (ji12))
         by_cases c18 : (ji12) ≤ (x0_2.size : Int)
         ·rw [if_pos c18] at H
          have c18b0 := eq_true c18
          have c18b1 : decide ((ji12) ≤ (x0_2.size : Int)) = true := decide_eq_true c18
          clear c18
          have H' := Aside0.mk H
          clear H
          have p15 : 0 ≤ ((ji12) : Int) := of_decide_eq_true (by first | (with_reducible assumption) | assumption)
          have q15 : (ji12) < (x0_2.size : Int) := of_decide_eq_true (by first | (with_reducible assumption) | assumption)
          have hx15 := bt_at x0_2 (ji12)
          replace p15 := eq_true p15
          replace q15 := eq_true q15
          go_wp2
          go_roundg k2
          case measure => have := HJ1.out; have := HK2.out; omega
          case rel => exact ⟨(x0_2.extract 0 ((ji12) : Int).toNat), (by first | rfl | (simp; done) | (simp only [← hji12] <;> (first | rfl | simp)) | (simp [*]; done)), H', ⟨by have := HJ1.out; have := HK2.out; omega⟩, by repeat (first | exact Drawn0.refl _ | apply Drawn0.step)⟩
         ·rw [if_neg c18] at H
          exact absurd H (by simp)
        ·rw [if_neg c16] at H
         have c16b0 : ((bt x0_2 (ji12)) == 32) = false := beq_eq_false_iff_ne.mpr c16
         have c16b1 : ((bt x0_2 (ji12)) != 32) = true := bne_iff_ne.mpr c16
         by_cases c20 : (bt x0_2 (ji12)) = 9
         ·rw [if_pos c20] at H
          have c20b0 : ((bt x0_2 (ji12)) == 9) = true := beq_iff_eq.mpr c20
          have c20b1 : ((bt x0_2 (ji12)) != 9) = false := bne_eq_false_iff_eq.mpr c20
          clear c20
          have c21b0 := eq_true (of_decide_eq_true (by first | (with_reducible assumption) | assumption) : 0 ≤ (ji12))
          by_cases c22 : (ji12) ≤ (x0_2.size : Int)
          ·rw [if_pos c22] at H
           have c22b0 := eq_true c22
           have c22b1 : decide ((ji12) ≤ (x0_2.size : Int)) = true := decide_eq_true c22
           clear c22
           have H' := Aside0.mk H
           clear H
           have p15 : 0 ≤ ((ji12) : Int) := of_decide_eq_true (by first | (with_reducible assumption) | assumption)
           have q15 : (ji12) < (x0_2.size : Int) := of_decide_eq_true (by first | (with_reducible assumption) | assumption)
           have hx15 := bt_at x0_2 (ji12)
           replace p15 := eq_true p15
           replace q15 := eq_true q15
           have p19 : 0 ≤ ((ji12) : Int) := of_decide_eq_true (by first | (with_reducible assumption) | assumption)
           have q19 : (ji12) < (x0_2.size : Int) := of_decide_eq_true (by first | (with_reducible assumption) | assumption)
           have hx19 := bt_at x0_2 (ji12)
           replace p19 := eq_true p19
           replace q19 := eq_true q19
           go_wp2
           go_roundg k2
           case measure => have := HJ1.out; have := HK2.out; omega
           case rel => exact ⟨(x0_2.extract 0 ((ji12) : Int).toNat), (by first | rfl | (simp; done) | (simp only [← hji12] <;> (first | rfl | simp)) | (simp [*]; done)), H', ⟨by have := HJ1.out; have := HK2.out; omega⟩, by repeat (first | exact Drawn0.refl _ | apply Drawn0.step)⟩
          ·rw [if_neg c22] at H
           exact absurd H (by simp)
         ·rw [if_neg c20] at H
          have c20b0 : ((bt x0_2 (ji12)) == 9) = false := beq_eq_false_iff_ne.mpr c20
          have c20b1 : ((bt x0_2 (ji12)) != 9) = true := bne_iff_ne.mpr c20
          obtain rfl := Option.some.inj H
          have p15 : 0 ≤ ((ji12) : Int) := of_decide_eq_true (by first | (with_reducible assumption) | assumption)
          have q15 : (ji12) < (x0_2.size : Int) := of_decide_eq_true (by first | (with_reducible assumption) | assumption)
          have hx15 := bt_at x0_2 (ji12)
          replace p15 := eq_true p15
          replace q15 := eq_true q15
          have p19 : 0 ≤ ((ji12) : Int) := of_decide_eq_true (by first | (with_reducible assumption) | assumption)
          have q19 : (ji12) < (x0_2.size : Int) := of_decide_eq_true (by first | (with_reducible assumption) | assumption)
          have hx19 := bt_at x0_2 (ji12)
          replace p19 := eq_true p19
          replace q19 := eq_true q19
          go_wp2
          go_ret
          exact ⟨by first | rfl | (simp; done) | (simp only [← hji12] <;> (first | rfl | simp)) | (simp [*]; done), by repeat (first | exact Drawn0.refl _ | apply Drawn0.step)⟩
       ·rw [if_neg c14] at H
        exact absurd H (by simp)
      ·rw [if_neg c13] at H
       exact absurd H (by simp)
     ·rw [if_neg c11] at H
      have c11b0 : decide (0 < (x0_2.size : Int)) = false := decide_eq_false c11
      have c11b1 : decide (0 < x0_2.size) = false := decide_eq_false (by omega)
      clear c11
      obtain rfl := Option.some.inj H
      go_wp2
      go_ret
      exact ⟨by first | rfl | (simp; done) | (simp [*]; done), by repeat (first | exact Drawn0.refl _ | apply Drawn0.step)⟩
def gronx_expression.f (a0 : ByteArray) : Option (ByteArray × Bool) := if a0.toList = ([64, 121, 101, 97, 114, 108, 121] : List UInt8) then (some ((⟨#[48, 32, 48, 32, 49, 32, 49, 32, 42]⟩ : ByteArray), true)) else (if a0.toList = ([64, 97, 110, 110, 117, 97, 108, 108, 121] : List UInt8) then (some ((⟨#[48, 32, 48, 32, 49, 32, 49, 32, 42]⟩ : ByteArray), true)) else (if a0.toList = ([64, 109, 111, 110, 116, 104, 108, 121] : List UInt8) then (some ((⟨#[48, 32, 48, 32, 49, 32, 42, 32, 42]⟩ : ByteArray), true)) else (if a0.toList = ([64, 119, 101, 101, 107, 108, 121] : List UInt8) then (some ((⟨#[48, 32, 48, 32, 42, 32, 42, 32, 48]⟩ : ByteArray), true)) else (if a0.toList = ([64, 100, 97, 105, 108, 121] : List UInt8) then (some ((⟨#[48, 32, 48, 32, 42, 32, 42, 32, 42]⟩ : ByteArray), true)) else (if a0.toList = ([64, 104, 111, 117, 114, 108, 121] : List UInt8) then (some ((⟨#[48, 32, 42, 32, 42, 32, 42, 32, 42]⟩ : ByteArray), true)) else (if a0.toList = ([64, 97, 108, 119, 97, 121, 115] : List UInt8) then (some ((⟨#[42, 32, 42, 32, 42, 32, 42, 32, 42]⟩ : ByteArray), true)) else (if a0.toList = ([64, 53, 109, 105, 110, 117, 116, 101, 115] : List UInt8) then (some ((⟨#[42, 47, 53, 32, 42, 32, 42, 32, 42, 32, 42]⟩ : ByteArray), true)) else (if a0.toList = ([64, 49, 48, 109, 105, 110, 117, 116, 101, 115] : List UInt8) then (some ((⟨#[42, 47, 49, 48, 32, 42, 32, 42, 32, 42, 32, 42]⟩ : ByteArray), true)) else (if a0.toList = ([64, 49, 53, 109, 105, 110, 117, 116, 101, 115] : List UInt8) then (some ((⟨#[42, 47, 49, 53, 32, 42, 32, 42, 32, 42, 32, 42]⟩ : ByteArray), true)) else (if a0.toList = ([64, 51, 48, 109, 105, 110, 117, 116, 101, 115] : List UInt8) then (some ((⟨#[48, 44, 51, 48, 32, 42, 32, 42, 32, 42, 32, 42]⟩ : ByteArray), true)) else (if a0.toList = ([64, 101, 118, 101, 114, 121, 115, 101, 99, 111, 110, 100] : List UInt8) then (some ((⟨#[42, 32, 42, 32, 42, 32, 42, 32, 42, 32, 42]⟩ : ByteArray), true)) else (some ((⟨#[]⟩ : ByteArray), false)))))))))))))
set_option maxHeartbeats 8000000 in
set_option maxRecDepth 100000 in
theorem gronx_expression.calls (a0 : ByteArray) (r1 : ByteArray) (r2 : Bool) (w : World) (h : gronx_expression.f a0 = some (r1, r2)) :
  Calls Tryz.prog 57 #[.string a0] w fun e w' => e = .returned (.tuple #[.string r1, .bool r2]) ∧ Drawn0 w w' := by
 have H : (if a0.toList = ([64, 121, 101, 97, 114, 108, 121] : List UInt8) then (some ((⟨#[48, 32, 48, 32, 49, 32, 49, 32, 42]⟩ : ByteArray), true)) else (if a0.toList = ([64, 97, 110, 110, 117, 97, 108, 108, 121] : List UInt8) then (some ((⟨#[48, 32, 48, 32, 49, 32, 49, 32, 42]⟩ : ByteArray), true)) else (if a0.toList = ([64, 109, 111, 110, 116, 104, 108, 121] : List UInt8) then (some ((⟨#[48, 32, 48, 32, 49, 32, 42, 32, 42]⟩ : ByteArray), true)) else (if a0.toList = ([64, 119, 101, 101, 107, 108, 121] : List UInt8) then (some ((⟨#[48, 32, 48, 32, 42, 32, 42, 32, 48]⟩ : ByteArray), true)) else (if a0.toList = ([64, 100, 97, 105, 108, 121] : List UInt8) then (some ((⟨#[48, 32, 48, 32, 42, 32, 42, 32, 42]⟩ : ByteArray), true)) else (if a0.toList = ([64, 104, 111, 117, 114, 108, 121] : List UInt8) then (some ((⟨#[48, 32, 42, 32, 42, 32, 42, 32, 42]⟩ : ByteArray), true)) else (if a0.toList = ([64, 97, 108, 119, 97, 121, 115] : List UInt8) then (some ((⟨#[42, 32, 42, 32, 42, 32, 42, 32, 42]⟩ : ByteArray), true)) else (if a0.toList = ([64, 53, 109, 105, 110, 117, 116, 101, 115] : List UInt8) then (some ((⟨#[42, 47, 53, 32, 42, 32, 42, 32, 42, 32, 42]⟩ : ByteArray), true)) else (if a0.toList = ([64, 49, 48, 109, 105, 110, 117, 116, 101, 115] : List UInt8) then (some ((⟨#[42, 47, 49, 48, 32, 42, 32, 42, 32, 42, 32, 42]⟩ : ByteArray), true)) else (if a0.toList = ([64, 49, 53, 109, 105, 110, 117, 116, 101, 115] : List UInt8) then (some ((⟨#[42, 47, 49, 53, 32, 42, 32, 42, 32, 42, 32, 42]⟩ : ByteArray), true)) else (if a0.toList = ([64, 51, 48, 109, 105, 110, 117, 116, 101, 115] : List UInt8) then (some ((⟨#[48, 44, 51, 48, 32, 42, 32, 42, 32, 42, 32, 42]⟩ : ByteArray), true)) else (if a0.toList = ([64, 101, 118, 101, 114, 121, 115, 101, 99, 111, 110, 100] : List UInt8) then (some ((⟨#[42, 32, 42, 32, 42, 32, 42, 32, 42, 32, 42]⟩ : ByteArray), true)) else (some ((⟨#[]⟩ : ByteArray), false)))))))))))))) = some (r1, r2) := h
 clear h
 by_cases c2 : a0.toList = ([64, 121, 101, 97, 114, 108, 121] : List UInt8)
 ·rw [if_pos c2] at H
  have c2b0 : (a0.toList == ([64, 121, 101, 97, 114, 108, 121] : List UInt8)) = true := beq_iff_eq.mpr c2
  have c2b1 : (a0.toList != ([64, 121, 101, 97, 114, 108, 121] : List UInt8)) = false := bne_eq_false_iff_eq.mpr c2
  clear c2
  simp only [Option.some.injEq, Prod.mk.injEq] at H
  obtain ⟨rfl, rfl⟩ := H
  go_enter Tryz.func57, Tryz.ntmps57
  go_wp2
  go_ret2
  exact ⟨by first | rfl | (simp; done) | (simp [*]; done), by repeat (first | exact Drawn0.refl _ | apply Drawn0.step)⟩
 ·rw [if_neg c2] at H
  have c2b0 : (a0.toList == ([64, 121, 101, 97, 114, 108, 121] : List UInt8)) = false := beq_eq_false_iff_ne.mpr c2
  have c2b1 : (a0.toList != ([64, 121, 101, 97, 114, 108, 121] : List UInt8)) = true := bne_iff_ne.mpr c2
  by_cases c3 : a0.toList = ([64, 97, 110, 110, 117, 97, 108, 108, 121] : List UInt8)
  ·rw [if_pos c3] at H
   have c3b0 : (a0.toList == ([64, 97, 110, 110, 117, 97, 108, 108, 121] : List UInt8)) = true := beq_iff_eq.mpr c3
   have c3b1 : (a0.toList != ([64, 97, 110, 110, 117, 97, 108, 108, 121] : List UInt8)) = false := bne_eq_false_iff_eq.mpr c3
   clear c3
   simp only [Option.some.injEq, Prod.mk.injEq] at H
   obtain ⟨rfl, rfl⟩ := H
   go_enter Tryz.func57, Tryz.ntmps57
   go_wp2
   go_ret2
   exact ⟨by first | rfl | (simp; done) | (simp [*]; done), by repeat (first | exact Drawn0.refl _ | apply Drawn0.step)⟩
  ·rw [if_neg c3] at H
   have c3b0 : (a0.toList == ([64, 97, 110, 110, 117, 97, 108, 108, 121] : List UInt8)) = false := beq_eq_false_iff_ne.mpr c3
   have c3b1 : (a0.toList != ([64, 97, 110, 110, 117, 97, 108, 108, 121] : List UInt8)) = true := bne_iff_ne.mpr c3
   by_cases c4 : a0.toList = ([64, 109, 111, 110, 116, 104, 108, 121] : List UInt8)
   ·rw [if_pos c4] at H
    have c4b0 : (a0.toList == ([64, 109, 111, 110, 116, 104, 108, 121] : List UInt8)) = true := beq_iff_eq.mpr c4
    have c4b1 : (a0.toList != ([64, 109, 111, 110, 116, 104, 108, 121] : List UInt8)) = false := bne_eq_false_iff_eq.mpr c4
    clear c4
    simp only [Option.some.injEq, Prod.mk.injEq] at H
    obtain ⟨rfl, rfl⟩ := H
    go_enter Tryz.func57, Tryz.ntmps57
    go_wp2
    go_ret2
    exact ⟨by first | rfl | (simp; done) | (simp [*]; done), by repeat (first | exact Drawn0.refl _ | apply Drawn0.step)⟩
   ·rw [if_neg c4] at H
    have c4b0 : (a0.toList == ([64, 109, 111, 110, 116, 104, 108, 121] : List UInt8)) = false := beq_eq_false_iff_ne.mpr c4
    have c4b1 : (a0.toList != ([64, 109, 111, 110, 116, 104, 108, 121] : List UInt8)) = true := bne_iff_ne.mpr c4
    by_cases c5 : a0.toList = ([64, 119, 101, 101, 107, 108, 121] : List UInt8)
    ·rw [if_pos c5] at H
     have c5b0 : (a0.toList == ([64, 119, 101, 101, 107, 108, 121] : List UInt8)) = true := beq_iff_eq.mpr c5
     have c5b1 : (a0.toList != ([64, 119, 101, 101, 107, 108, 121] : List UInt8)) = false := bne_eq_false_iff_eq.mpr c5
     clear c5
     simp only [Option.some.injEq, Prod.mk.injEq] at H
     obtain ⟨rfl, rfl⟩ := H
     go_enter Tryz.func57, Tryz.ntmps57
     go_wp2
     go_ret2
     exact ⟨by first | rfl | (simp; done) | (simp [*]; done), by repeat (first | exact Drawn0.refl _ | apply Drawn0.step)⟩
    ·rw [if_neg c5] at H
     have c5b0 : (a0.toList == ([64, 119, 101, 101, 107, 108, 121] : List UInt8)) = false := beq_eq_false_iff_ne.mpr c5
     have c5b1 : (a0.toList != ([64, 119, 101, 101, 107, 108, 121] : List UInt8)) = true := bne_iff_ne.mpr c5
     by_cases c6 : a0.toList = ([64, 100, 97, 105, 108, 121] : List UInt8)
     ·rw [if_pos c6] at H
      have c6b0 : (a0.toList == ([64, 100, 97, 105, 108, 121] : List UInt8)) = true := beq_iff_eq.mpr c6
      have c6b1 : (a0.toList != ([64, 100, 97, 105, 108, 121] : List UInt8)) = false := bne_eq_false_iff_eq.mpr c6
      clear c6
      simp only [Option.some.injEq, Prod.mk.injEq] at H
      obtain ⟨rfl, rfl⟩ := H
      go_enter Tryz.func57, Tryz.ntmps57
      go_wp2
      go_ret2
      exact ⟨by first | rfl | (simp; done) | (simp [*]; done), by repeat (first | exact Drawn0.refl _ | apply Drawn0.step)⟩
     ·rw [if_neg c6] at H
      have c6b0 : (a0.toList == ([64, 100, 97, 105, 108, 121] : List UInt8)) = false := beq_eq_false_iff_ne.mpr c6
      have c6b1 : (a0.toList != ([64, 100, 97, 105, 108, 121] : List UInt8)) = true := bne_iff_ne.mpr c6
      by_cases c7 : a0.toList = ([64, 104, 111, 117, 114, 108, 121] : List UInt8)
      ·rw [if_pos c7] at H
       have c7b0 : (a0.toList == ([64, 104, 111, 117, 114, 108, 121] : List UInt8)) = true := beq_iff_eq.mpr c7
       have c7b1 : (a0.toList != ([64, 104, 111, 117, 114, 108, 121] : List UInt8)) = false := bne_eq_false_iff_eq.mpr c7
       clear c7
       simp only [Option.some.injEq, Prod.mk.injEq] at H
       obtain ⟨rfl, rfl⟩ := H
       go_enter Tryz.func57, Tryz.ntmps57
       go_wp2
       go_ret2
       exact ⟨by first | rfl | (simp; done) | (simp [*]; done), by repeat (first | exact Drawn0.refl _ | apply Drawn0.step)⟩
      ·rw [if_neg c7] at H
       have c7b0 : (a0.toList == ([64, 104, 111, 117, 114, 108, 121] : List UInt8)) = false := beq_eq_false_iff_ne.mpr c7
       have c7b1 : (a0.toList != ([64, 104, 111, 117, 114, 108, 121] : List UInt8)) = true := bne_iff_ne.mpr c7
       by_cases c8 : a0.toList = ([64, 97, 108, 119, 97, 121, 115] : List UInt8)
       ·rw [if_pos c8] at H
        have c8b0 : (a0.toList == ([64, 97, 108, 119, 97, 121, 115] : List UInt8)) = true := beq_iff_eq.mpr c8
        have c8b1 : (a0.toList != ([64, 97, 108, 119, 97, 121, 115] : List UInt8)) = false := bne_eq_false_iff_eq.mpr c8
        clear c8
        simp only [Option.some.injEq, Prod.mk.injEq] at H
        obtain ⟨rfl, rfl⟩ := H
        go_enter Tryz.func57, Tryz.ntmps57
        go_wp2
        go_ret2
        exact ⟨by first | rfl | (simp; done) | (simp [*]; done), by repeat (first | exact Drawn0.refl _ | apply Drawn0.step)⟩
       ·rw [if_neg c8] at H
        have c8b0 : (a0.toList == ([64, 97, 108, 119, 97, 121, 115] : List UInt8)) = false := beq_eq_false_iff_ne.mpr c8
        have c8b1 : (a0.toList != ([64, 97, 108, 119, 97, 121, 115] : List UInt8)) = true := bne_iff_ne.mpr c8
        by_cases c9 : a0.toList = ([64, 53, 109, 105, 110, 117, 116, 101, 115] : List UInt8)
        ·rw [if_pos c9] at H
         have c9b0 : (a0.toList == ([64, 53, 109, 105, 110, 117, 116, 101, 115] : List UInt8)) = true := beq_iff_eq.mpr c9
         have c9b1 : (a0.toList != ([64, 53, 109, 105, 110, 117, 116, 101, 115] : List UInt8)) = false := bne_eq_false_iff_eq.mpr c9
         clear c9
         simp only [Option.some.injEq, Prod.mk.injEq] at H
         obtain ⟨rfl, rfl⟩ := H
         go_enter Tryz.func57, Tryz.ntmps57
         go_wp2
         go_ret2
         exact ⟨by first | rfl | (simp; done) | (simp [*]; done), by repeat (first | exact Drawn0.refl _ | apply Drawn0.step)⟩
        ·rw [if_neg c9] at H
         have c9b0 : (a0.toList == ([64, 53, 109, 105, 110, 117, 116, 101, 115] : List UInt8)) = false := beq_eq_false_iff_ne.mpr c9
         have c9b1 : (a0.toList != ([64, 53, 109, 105, 110, 117, 116, 101, 115] : List UInt8)) = true := bne_iff_ne.mpr c9
         by_cases c10 : a0.toList = ([64, 49, 48, 109, 105, 110, 117, 116, 101, 115] : List UInt8)
         ·rw [if_pos c10] at H
          have c10b0 : (a0.toList == ([64, 49, 48, 109, 105, 110, 117, 116, 101, 115] : List UInt8)) = true := beq_iff_eq.mpr c10
          have c10b1 : (a0.toList != ([64, 49, 48, 109, 105, 110, 117, 116, 101, 115] : List UInt8)) = false := bne_eq_false_iff_eq.mpr c10
          clear c10
          simp only [Option.some.injEq, Prod.mk.injEq] at H
          obtain ⟨rfl, rfl⟩ := H
          go_enter Tryz.func57, Tryz.ntmps57
          go_wp2
          go_ret2
          exact ⟨by first | rfl | (simp; done) | (simp [*]; done), by repeat (first | exact Drawn0.refl _ | apply Drawn0.step)⟩
         ·rw [if_neg c10] at H
          have c10b0 : (a0.toList == ([64, 49, 48, 109, 105, 110, 117, 116, 101, 115] : List UInt8)) = false := beq_eq_false_iff_ne.mpr c10
          have c10b1 : (a0.toList != ([64, 49, 48, 109, 105, 110, 117, 116, 101, 115] : List UInt8)) = true := bne_iff_ne.mpr c10
          by_cases c11 : a0.toList = ([64, 49, 53, 109, 105, 110, 117, 116, 101, 115] : List UInt8)
          ·rw [if_pos c11] at H
           have c11b0 : (a0.toList == ([64, 49, 53, 109, 105, 110, 117, 116, 101, 115] : List UInt8)) = true := beq_iff_eq.mpr c11
           have c11b1 : (a0.toList != ([64, 49, 53, 109, 105, 110, 117, 116, 101, 115] : List UInt8)) = false := bne_eq_false_iff_eq.mpr c11
           clear c11
           simp only [Option.some.injEq, Prod.mk.injEq] at H
           obtain ⟨rfl, rfl⟩ := H
           go_enter Tryz.func57, Tryz.ntmps57
           go_wp2
           go_ret2
           exact ⟨by first | rfl | (simp; done) | (simp [*]; done), by repeat (first | exact Drawn0.refl _ | apply Drawn0.step)⟩
          ·rw [if_neg c11] at H
           have c11b0 : (a0.toList == ([64, 49, 53, 109, 105, 110, 117, 116, 101, 115] : List UInt8)) = false := beq_eq_false_iff_ne.mpr c11
           have c11b1 : (a0.toList != ([64, 49, 53, 109, 105, 110, 117, 116, 101, 115] : List UInt8)) = true := bne_iff_ne.mpr c11
           by_cases c12 : a0.toList = ([64, 51, 48, 109, 105, 110, 117, 116, 101, 115] : List UInt8)
           ·rw [if_pos c12] at H
            have c12b0 : (a0.toList == ([64, 51, 48, 109, 105, 110, 117, 116, 101, 115] : List UInt8)) = true := beq_iff_eq.mpr c12
            have c12b1 : (a0.toList != ([64, 51, 48, 109, 105, 110, 117, 116, 101, 115] : List UInt8)) = false := bne_eq_false_iff_eq.mpr c12
            clear c12
            simp only [Option.some.injEq, Prod.mk.injEq] at H
            obtain ⟨rfl, rfl⟩ := H
            go_enter Tryz.func57, Tryz.ntmps57
            go_wp2
            go_ret2
            exact ⟨by first | rfl | (simp; done) | (simp [*]; done), by repeat (first | exact Drawn0.refl _ | apply Drawn0.step)⟩
           ·rw [if_neg c12] at H
            have c12b0 : (a0.toList == ([64, 51, 48, 109, 105, 110, 117, 116, 101, 115] : List UInt8)) = false := beq_eq_false_iff_ne.mpr c12
            have c12b1 : (a0.toList != ([64, 51, 48, 109, 105, 110, 117, 116, 101, 115] : List UInt8)) = true := bne_iff_ne.mpr c12
            by_cases c13 : a0.toList = ([64, 101, 118, 101, 114, 121, 115, 101, 99, 111, 110, 100] : List UInt8)
            ·rw [if_pos c13] at H
             have c13b0 : (a0.toList == ([64, 101, 118, 101, 114, 121, 115, 101, 99, 111, 110, 100] : List UInt8)) = true := beq_iff_eq.mpr c13
             have c13b1 : (a0.toList != ([64, 101, 118, 101, 114, 121, 115, 101, 99, 111, 110, 100] : List UInt8)) = false := bne_eq_false_iff_eq.mpr c13
             clear c13
             simp only [Option.some.injEq, Prod.mk.injEq] at H
             obtain ⟨rfl, rfl⟩ := H
             go_enter Tryz.func57, Tryz.ntmps57
             go_wp2
             go_ret2
             exact ⟨by first | rfl | (simp; done) | (simp [*]; done), by repeat (first | exact Drawn0.refl _ | apply Drawn0.step)⟩
            ·rw [if_neg c13] at H
             have c13b0 : (a0.toList == ([64, 101, 118, 101, 114, 121, 115, 101, 99, 111, 110, 100] : List UInt8)) = false := beq_eq_false_iff_ne.mpr c13
             have c13b1 : (a0.toList != ([64, 101, 118, 101, 114, 121, 115, 101, 99, 111, 110, 100] : List UInt8)) = true := bne_iff_ne.mpr c13
             simp only [Option.some.injEq, Prod.mk.injEq] at H
             obtain ⟨rfl, rfl⟩ := H
             go_enter Tryz.func57, Tryz.ntmps57
             go_wp2
             go_ret2
             exact ⟨by first | rfl | (simp; done) | (simp [*]; done), by repeat (first | exact Drawn0.refl _ | apply Drawn0.step)⟩
mutual
def gronx_zzSpaces.l0 : Nat → ByteArray → List Int → Bool → Int → Option (ByteArray)
 | 0, _, _, _, _ => none
 | k + 1, x0, x3, x4, x5 => if x5 < (x0.size : Int) then (if 0 ≤ x5 then (if (bt x0 x5) = 32 then (gronx_zzSpaces.j1 k x0 x3 x4 x5 ((bt x0 x5) == 32)) else (if (bt x0 x5) = 9 then (gronx_zzSpaces.j1 k x0 x3 x4 x5 ((bt x0 x5) == 9)) else (if (bt x0 x5) = 10 then (gronx_zzSpaces.j1 k x0 x3 x4 x5 ((bt x0 x5) == 10)) else (if (bt x0 x5) = 12 then (gronx_zzSpaces.j1 k x0 x3 x4 x5 ((bt x0 x5) == 12)) else (gronx_zzSpaces.j1 k x0 x3 x4 x5 ((bt x0 x5) == 13)))))) else (none)) else (some (strOfNums x3))
def gronx_zzSpaces.j1 : Nat → ByteArray → List Int → Bool → Int → Bool → Option (ByteArray)
 | 0, _, _, _, _, _ => none
 | k + 1, x0, x3, x4, x5, x21 => if x21 = true then (if x4 = true then (gronx_zzSpaces.l0 k x0 x3 true (wrap64 (x5 + 1))) else (if x3.length < 140737488355328 then (gronx_zzSpaces.l0 k x0 (x3 ++ [32]) true (wrap64 (x5 + 1))) else (none))) else (if 0 ≤ x5 then (if x5 < (x0.size : Int) then (if x3.length < 140737488355328 then (gronx_zzSpaces.l0 k x0 (x3 ++ [bt x0 x5]) false (wrap64 (x5 + 1))) else (none)) else (none)) else (none))
end
def gronx_zzSpaces.f (k : Nat) (a0 : ByteArray) : Option (ByteArray) := gronx_zzSpaces.l0 k a0 ([] : List Int) false 0
theorem gronx_zzSpaces.mono_l : ∀ k, (∀ y0 y1 y2 y3, LeO (gronx_zzSpaces.l0 k y0 y1 y2 y3) (gronx_zzSpaces.l0 (k + 1) y0 y1 y2 y3)) ∧ (∀ y0 y1 y2 y3 y4, LeO (gronx_zzSpaces.j1 k y0 y1 y2 y3 y4) (gronx_zzSpaces.j1 (k + 1) y0 y1 y2 y3 y4))
 | 0 => ⟨fun _ _ _ _ r h => by simp [gronx_zzSpaces.l0] at h, fun _ _ _ _ _ r h => by simp [gronx_zzSpaces.j1] at h⟩
 | k + 1 => by
  obtain ⟨ih0, ih1⟩ := gronx_zzSpaces.mono_l k
  refine ⟨?_, ?_⟩
  ·intro y0 y1 y2 y3
   unfold gronx_zzSpaces.l0
   repeat' first
   | (with_reducible exact ih0 _ _ _ _)
   | (with_reducible exact ih1 _ _ _ _ _)
   | (with_reducible exact LeO.refl _)
   | (with_reducible exact LeO.none _)
   | (with_reducible refine LeO.ite ?_ ?_)
   | (with_reducible refine LeO.bind ?_ (fun _ => ?_))
   | exact ih0 _ _ _ _
   | exact ih1 _ _ _ _ _
   | exact LeO.none _
   | refine LeO.ite ?_ ?_
   | refine LeO.bind ?_ (fun _ => ?_)
  ·intro y0 y1 y2 y3 y4
   unfold gronx_zzSpaces.j1
   repeat' first
   | (with_reducible exact ih0 _ _ _ _)
   | (with_reducible exact ih1 _ _ _ _ _)
   | (with_reducible exact LeO.refl _)
   | (with_reducible exact LeO.none _)
   | (with_reducible refine LeO.ite ?_ ?_)
   | (with_reducible refine LeO.bind ?_ (fun _ => ?_))
   | exact ih0 _ _ _ _
   | exact ih1 _ _ _ _ _
   | exact LeO.none _
   | refine LeO.ite ?_ ?_
   | refine LeO.bind ?_ (fun _ => ?_)
theorem gronx_zzSpaces.mono : ∀ a0 k, LeO (gronx_zzSpaces.f k a0) (gronx_zzSpaces.f (k + 1) a0) := by
 intro a0 k
 obtain ⟨ih0, ih1⟩ := gronx_zzSpaces.mono_l k
 unfold gronx_zzSpaces.f
 repeat' first
   | (with_reducible exact ih0 _ _ _ _)
   | (with_reducible exact ih1 _ _ _ _ _)
   | (with_reducible exact LeO.refl _)
   | (with_reducible exact LeO.none _)
   | (with_reducible refine LeO.ite ?_ ?_)
   | (with_reducible refine LeO.bind ?_ (fun _ => ?_))
   | exact ih0 _ _ _ _
   | exact ih1 _ _ _ _ _
   | exact LeO.none _
   | refine LeO.ite ?_ ?_
   | refine LeO.bind ?_ (fun _ => ?_)
set_option maxHeartbeats 8000000 in
set_option maxRecDepth 100000 in
theorem gronx_zzSpaces.calls (k : Nat) (a0 : ByteArray) (r : ByteArray) (w : World) (h : gronx_zzSpaces.f k a0 = some r) :
  Calls Tryz.prog 59 #[.string a0] w fun e w' => e = .returned (.string r) ∧ Below w.heap.size w w' := by
 have HB := Aside0.mk (Below.refl w.heap.size w)
 have H : (gronx_zzSpaces.l0 k a0 ([] : List Int) false 0) = some r := h
 clear h
 have H' := Aside0.mk H
 clear H
 go_enter Tryz.func59, Tryz.ntmps59
 go_wp2
 go_loopg [3, 4, 5] k (fun kq v3 v4 v5 w' => ∃ (x3_1 : List Int) (x4_1 : Bool) (x5_1 : Int), v4 = .bool x4_1 ∧ v5 = .int .i64 x5_1 ∧ Aside0 (gronx_zzSpaces.l0 kq a0 x3_1 x4_1 x5_1 = some r) ∧ Aside0 (kq ≤ k) ∧ Aside0 (Kd.R (Kd.int .u8) 5 w' w.heap.size (fun _ => True) v3 x3_1) ∧ Aside0 (Below w.heap.size w w'))
 case atStart => exact ⟨(([] : List Int)), (false), (0), (by first | rfl | (simp; done) | (simp [*]; done)), (by first | rfl | (simp; done) | (simp [*]; done)), H', ⟨Nat.le_refl _⟩, ⟨by first | exact Kd.R_nil _ _ _ _ _ | exact Kd.N_nil _ _ _ _ _ | exact Kd.V_nil _ _ _ _ _ | exact Kd.Q_nil _ _ _ _ _ | exact Kd.S_nil _ _ _ _ _⟩, ⟨by repeat (first | (with_reducible first | exact HB.out | apply below_alloc | apply pw_below_drewN | apply below_drew1) | exact HB.out)⟩⟩
 case round =>
  clear H'
  obtain ⟨x3_1, x4_1, x5_1, rfl, rfl, HA, HK1, HO_3, HB⟩ := hrel
  cases gk with
  | zero => exact absurd HA.out (by simp [gronx_zzSpaces.l0])
  | succ k1 =>
   have H := HA.out
   clear HA
   simp only [gronx_zzSpaces.l0] at H
   by_cases c2 : x5_1 < (a0.size : Int)
   ·rw [if_pos c2] at H
    have c2b0 : decide (x5_1 < (a0.size : Int)) = true := decide_eq_true c2
    clear c2
    by_cases c3 : 0 ≤ x5_1
    ·rw [if_pos c3] at H
     have c3b0 : decide (0 ≤ x5_1) = true := decide_eq_true c3
     clear c3
     have HC5 := Aside0.mk H
     clear H
     have p4 : 0 ≤ (x5_1 : Int) := of_decide_eq_true (by first | (with_reducible assumption) | assumption)
     have q4 : x5_1 < (a0.size : Int) := of_decide_eq_true (by first | (with_reducible assumption) | assumption)
     have hx4 := bt_at a0 x5_1
     replace p4 := eq_true p4
     replace q4 := eq_true q4
     go_upto_if 21 with (fail)
     go_cut [21] (fun v21 wc => ∃ (kq : Nat) (x21_4 : Bool), v21 = .bool x21_4 ∧ Aside0 (gronx_zzSpaces.j1 kq a0 x3_1 x4_1 x5_1 x21_4 = some r) ∧ Aside0 (kq ≤ k1) ∧ Aside0 (Kd.R (Kd.int .u8) 5 wc w.heap.size (fun _ => True) u3 x3_1) ∧ Aside0 (Below w.heap.size w wc))
     case first =>
      have H := HC5.out
      clear HC5
      by_cases c6 : (bt a0 x5_1) = 32
      ·rw [if_pos c6] at H
       have c6b0 : ((bt a0 x5_1) == 32) = true := beq_iff_eq.mpr c6
       have c6b1 : ((bt a0 x5_1) != 32) = false := bne_eq_false_iff_eq.mpr c6
       clear c6
       (first | rw [c6b0] | (simp only [i64_w, i32_w]; rw [c6b0]) | skip)
       have H' := Aside0.mk H
       clear H
       go_wp2
       go_meet
       case rel => exact ⟨_, (((bt a0 x5_1) == 32)), (by first | rfl | (simp; done) | (simp [*]; done)), H', ⟨by have := HK1.out; first | omega | exact Nat.le_refl _⟩, ⟨by (with_reducible repeat (first | apply Kd.R_alloc | apply Kd.R_drewN | apply Kd.R_drew)); exact HO_3.out⟩, ⟨by repeat (first | (with_reducible first | exact HB.out | apply below_alloc | apply pw_below_drewN | apply below_drew1) | exact HB.out)⟩⟩
      ·rw [if_neg c6] at H
       have c6b0 : ((bt a0 x5_1) == 32) = false := beq_eq_false_iff_ne.mpr c6
       have c6b1 : ((bt a0 x5_1) != 32) = true := bne_iff_ne.mpr c6
       (first | rw [c6b0] | (simp only [i64_w, i32_w]; rw [c6b0]) | skip)
       by_cases c7 : (bt a0 x5_1) = 9
       ·rw [if_pos c7] at H
        have c7b0 : ((bt a0 x5_1) == 9) = true := beq_iff_eq.mpr c7
        have c7b1 : ((bt a0 x5_1) != 9) = false := bne_eq_false_iff_eq.mpr c7
        clear c7
        have H' := Aside0.mk H
        clear H
        go_wp2
        go_meet
        case rel => exact ⟨_, (((bt a0 x5_1) == 9)), (by first | rfl | (simp; done) | (simp [*]; done)), H', ⟨by have := HK1.out; first | omega | exact Nat.le_refl _⟩, ⟨by (with_reducible repeat (first | apply Kd.R_alloc | apply Kd.R_drewN | apply Kd.R_drew)); exact HO_3.out⟩, ⟨by repeat (first | (with_reducible first | exact HB.out | apply below_alloc | apply pw_below_drewN | apply below_drew1) | exact HB.out)⟩⟩
       ·rw [if_neg c7] at H
        have c7b0 : ((bt a0 x5_1) == 9) = false := beq_eq_false_iff_ne.mpr c7
        have c7b1 : ((bt a0 x5_1) != 9) = true := bne_iff_ne.mpr c7
        by_cases c8 : (bt a0 x5_1) = 10
        ·rw [if_pos c8] at H
         have c8b0 : ((bt a0 x5_1) == 10) = true := beq_iff_eq.mpr c8
         have c8b1 : ((bt a0 x5_1) != 10) = false := bne_eq_false_iff_eq.mpr c8
         clear c8
         have H' := Aside0.mk H
         clear H
         go_wp2
         go_meet
         case rel => exact ⟨_, (((bt a0 x5_1) == 10)), (by first | rfl | (simp; done) | (simp [*]; done)), H', ⟨by have := HK1.out; first | omega | exact Nat.le_refl _⟩, ⟨by (with_reducible repeat (first | apply Kd.R_alloc | apply Kd.R_drewN | apply Kd.R_drew)); exact HO_3.out⟩, ⟨by repeat (first | (with_reducible first | exact HB.out | apply below_alloc | apply pw_below_drewN | apply below_drew1) | exact HB.out)⟩⟩
        ·rw [if_neg c8] at H
         have c8b0 : ((bt a0 x5_1) == 10) = false := beq_eq_false_iff_ne.mpr c8
         have c8b1 : ((bt a0 x5_1) != 10) = true := bne_iff_ne.mpr c8
         by_cases c9 : (bt a0 x5_1) = 12
         ·rw [if_pos c9] at H
          have c9b0 : ((bt a0 x5_1) == 12) = true := beq_iff_eq.mpr c9
          have c9b1 : ((bt a0 x5_1) != 12) = false := bne_eq_false_iff_eq.mpr c9
          clear c9
          have H' := Aside0.mk H
          clear H
          go_wp2
          go_meet
          case rel => exact ⟨_, (((bt a0 x5_1) == 12)), (by first | rfl | (simp; done) | (simp [*]; done)), H', ⟨by have := HK1.out; first | omega | exact Nat.le_refl _⟩, ⟨by (with_reducible repeat (first | apply Kd.R_alloc | apply Kd.R_drewN | apply Kd.R_drew)); exact HO_3.out⟩, ⟨by repeat (first | (with_reducible first | exact HB.out | apply below_alloc | apply pw_below_drewN | apply below_drew1) | exact HB.out)⟩⟩
         ·rw [if_neg c9] at H
          have c9b0 : ((bt a0 x5_1) == 12) = false := beq_eq_false_iff_ne.mpr c9
          have c9b1 : ((bt a0 x5_1) != 12) = true := bne_iff_ne.mpr c9
          have H' := Aside0.mk H
          clear H
          go_wp2
          go_meet
          case rel => exact ⟨_, (((bt a0 x5_1) == 13)), (by first | rfl | (simp; done) | (simp [*]; done)), H', ⟨by have := HK1.out; first | omega | exact Nat.le_refl _⟩, ⟨by (with_reducible repeat (first | apply Kd.R_alloc | apply Kd.R_drewN | apply Kd.R_drew)); exact HO_3.out⟩, ⟨by repeat (first | (with_reducible first | exact HB.out | apply below_alloc | apply pw_below_drewN | apply below_drew1) | exact HB.out)⟩⟩
     case rest =>
      clear HC5
      obtain ⟨kq, x21_4, rfl, HA, HJ4, HO_3, HB⟩ := hcut
      cases kq with
      | zero => exact absurd HA.out (by simp [gronx_zzSpaces.j1])
      | succ kj4 =>
       have H := HA.out
       clear HA
       simp only [gronx_zzSpaces.j1] at H
       by_cases c10 : x21_4 = true
       ·subst c10
        have H1 : (if x4_1 = true then (gronx_zzSpaces.l0 kj4 a0 x3_1 true (wrap64 (x5_1 + 1))) else (if x3_1.length < 140737488355328 then (gronx_zzSpaces.l0 kj4 a0 (x3_1 ++ [32]) true (wrap64 (x5_1 + 1))) else (none))) = some r := by rw [if_pos rfl] at H; exact H
        clear H
        have H := H1
        clear H1
        by_cases c11 : x4_1 = true
        ·subst c11
         have H1 : (gronx_zzSpaces.l0 kj4 a0 x3_1 true (wrap64 (x5_1 + 1))) = some r := by rw [if_pos rfl] at H; exact H
         clear H
         have H := H1
         clear H1
         have H' := Aside0.mk H
         clear H
         go_wp2
         go_roundg kj4
         case measure => have := HK1.out; have := HJ4.out; omega
         case rel => exact ⟨(x3_1), (true), (wrap64 (x5_1 + 1)), (by first | rfl | (simp; done) | (simp [*]; done)), (by first | rfl | (simp; done) | (simp [*]; done)), H', ⟨by have := HK1.out; have := HJ4.out; omega⟩, ⟨by (with_reducible repeat (first | apply Kd.R_alloc | apply Kd.R_drewN | apply Kd.R_drew)); exact HO_3.out⟩, ⟨by repeat (first | (with_reducible first | exact HB.out | apply below_alloc | apply pw_below_drewN | apply below_drew1) | exact HB.out)⟩⟩
        ·replace c11 := Bool.eq_false_iff.mpr c11
         subst c11
         have H1 : (if x3_1.length < 140737488355328 then (gronx_zzSpaces.l0 kj4 a0 (x3_1 ++ [32]) true (wrap64 (x5_1 + 1))) else (none)) = some r := by rw [if_neg (show ¬ (false = true) by decide)] at H; exact H
         clear H
         have H := H1
         clear H1
         by_cases c12 : x3_1.length < 140737488355328
         ·rw [if_pos c12] at H
          have LMc12 := Aside0.mk c12
          clear c12
          obtain ⟨y323, hy323⟩ : ∃ y_ : List Int, y_ = (x3_1 ++ [32]) := ⟨_, rfl⟩
          replace H : (gronx_zzSpaces.l0 kj4 a0 y323 true (wrap64 (x5_1 + 1))) = some r := by first | (rw [hy323]; with_reducible exact H) | (have H2_ := (Option.bind_some _ _).symm.trans H; rw [hy323]; with_reducible exact H2_) | (have H2_ := (Option.bind_some _ _).symm.trans H; with_reducible exact H2_) | with_reducible exact H | (rw [hy323]; exact H) | exact H
          have Ny323 := Aside0.mk hy323
          clear hy323
          have H' := Aside0.mk H
          clear H
          go_wp2_with (first | ((with_reducible refine gate_builtin (b := .append) (xs := #[.tmp 29, .tmp 30]) rfl ?_); at_builtin; refine Kd.R_append (Kd.int .u8) (w0 := w) w.heap.size rfl (.tmp 29) (.tmp 30) 137 5 (.int .u8 0) 1 rfl Tryz.underlying137 info5 rfl (by decide) (by omega) u3 x3_1 32 [.int .u8 32] (fun _ => True) (fun _ => False) rfl rfl ?aP (fun _ hk => hk.elim) ?aF ?aO ?aB ?aS ?aL ?_; (case aP => exact rfl); (case aB => exact (by repeat (first | (with_reducible first | exact HB.out | apply below_alloc | apply pw_below_drewN | apply below_drew1) | exact HB.out))); (case aF => exact (fun _ _ => trivial)); (case aO => exact (by (with_reducible repeat (first | apply Kd.R_alloc | apply Kd.R_drewN | apply Kd.R_drew)); exact HO_3.out)); (case aS => exact (below_size (by repeat (first | (with_reducible first | exact HB.out | apply below_alloc | apply pw_below_drewN | apply below_drew1) | exact HB.out)))); (case aL => have := LMc12.out; omega); intro v324 w13 ho hb hg hat; rw [← Ny323.out] at ho; have n0_ := Aside0.mk (hb); have n1_ := Aside0.mk (ho); clear HB; clear HO_3; have HB := n0_; have HO325 := n1_; clear n0_ n1_; clear ho hb hg hat))
          go_roundg kj4
          case measure => have := HK1.out; have := HJ4.out; omega
          case rel => exact ⟨(y323), (true), (wrap64 (x5_1 + 1)), (by first | rfl | (simp; done) | (simp [*]; done)), (by first | rfl | (simp; done) | (simp [*]; done)), H', ⟨by have := HK1.out; have := HJ4.out; omega⟩, ⟨by (with_reducible repeat (first | apply Kd.R_alloc | apply Kd.R_drewN | apply Kd.R_drew)); exact HO325.out⟩, ⟨by repeat (first | (with_reducible first | exact HB.out | apply below_alloc | apply pw_below_drewN | apply below_drew1) | exact HB.out)⟩⟩
         ·rw [if_neg c12] at H
          exact absurd H (by simp)
       ·replace c10 := Bool.eq_false_iff.mpr c10
        subst c10
        have H1 : (if 0 ≤ x5_1 then (if x5_1 < (a0.size : Int) then (if x3_1.length < 140737488355328 then (gronx_zzSpaces.l0 kj4 a0 (x3_1 ++ [bt a0 x5_1]) false (wrap64 (x5_1 + 1))) else (none)) else (none)) else (none)) = some r := by rw [if_neg (show ¬ (false = true) by decide)] at H; exact H
        clear H
        have H := H1
        clear H1
        by_cases c14 : 0 ≤ x5_1
        ·rw [if_pos c14] at H
         have c14b0 : decide (0 ≤ x5_1) = true := decide_eq_true c14
         clear c14
         by_cases c15 : x5_1 < (a0.size : Int)
         ·rw [if_pos c15] at H
          have c15b0 : decide (x5_1 < (a0.size : Int)) = true := decide_eq_true c15
          clear c15
          by_cases c17 : x3_1.length < 140737488355328
          ·rw [if_pos c17] at H
           have LMc17 := Aside0.mk c17
           clear c17
           obtain ⟨y326, hy326⟩ : ∃ y_ : List Int, y_ = (x3_1 ++ [bt a0 x5_1]) := ⟨_, rfl⟩
           replace H : (gronx_zzSpaces.l0 kj4 a0 y326 false (wrap64 (x5_1 + 1))) = some r := by first | (rw [hy326]; with_reducible exact H) | (have H2_ := (Option.bind_some _ _).symm.trans H; rw [hy326]; with_reducible exact H2_) | (have H2_ := (Option.bind_some _ _).symm.trans H; with_reducible exact H2_) | with_reducible exact H | (rw [hy326]; exact H) | exact H
           have Ny326 := Aside0.mk hy326
           clear hy326
           have H' := Aside0.mk H
           clear H
           have p16 : 0 ≤ (x5_1 : Int) := of_decide_eq_true (by first | (with_reducible assumption) | assumption)
           have q16 : x5_1 < (a0.size : Int) := of_decide_eq_true (by first | (with_reducible assumption) | assumption)
           have hx16 := bt_at a0 x5_1
           replace p16 := eq_true p16
           replace q16 := eq_true q16
           go_wp2_with (first | ((with_reducible refine gate_builtin (b := .append) (xs := #[.tmp 15, .tmp 19]) rfl ?_); at_builtin; refine Kd.R_append (Kd.int .u8) (w0 := w) w.heap.size rfl (.tmp 15) (.tmp 19) 137 5 (.int .u8 0) 1 rfl Tryz.underlying137 info5 rfl (by decide) (by omega) u3 x3_1 (bt a0 x5_1) [.int .u8 (bt a0 x5_1)] (fun _ => True) (fun _ => False) rfl rfl ?aP (fun _ hk => hk.elim) ?aF ?aO ?aB ?aS ?aL ?_; (case aP => exact rfl); (case aB => exact (by repeat (first | (with_reducible first | exact HB.out | apply below_alloc | apply pw_below_drewN | apply below_drew1) | exact HB.out))); (case aF => exact (fun _ _ => trivial)); (case aO => exact (by (with_reducible repeat (first | apply Kd.R_alloc | apply Kd.R_drewN | apply Kd.R_drew)); exact HO_3.out)); (case aS => exact (below_size (by repeat (first | (with_reducible first | exact HB.out | apply below_alloc | apply pw_below_drewN | apply below_drew1) | exact HB.out)))); (case aL => have := LMc17.out; omega); intro v327 w18 ho hb hg hat; rw [← Ny326.out] at ho; have n0_ := Aside0.mk (hb); have n1_ := Aside0.mk (ho); clear HB; clear HO_3; have HB := n0_; have HO328 := n1_; clear n0_ n1_; clear ho hb hg hat))
           go_roundg kj4
           case measure => have := HK1.out; have := HJ4.out; omega
           case rel => exact ⟨(y326), (false), (wrap64 (x5_1 + 1)), (by first | rfl | (simp; done) | (simp [*]; done)), (by first | rfl | (simp; done) | (simp [*]; done)), H', ⟨by have := HK1.out; have := HJ4.out; omega⟩, ⟨by (with_reducible repeat (first | apply Kd.R_alloc | apply Kd.R_drewN | apply Kd.R_drew)); exact HO328.out⟩, ⟨by repeat (first | (with_reducible first | exact HB.out | apply below_alloc | apply pw_below_drewN | apply below_drew1) | exact HB.out)⟩⟩
          ·rw [if_neg c17] at H
           exact absurd H (by simp)
         ·rw [if_neg c15] at H
          exact absurd H (by simp)
        ·rw [if_neg c14] at H
         exact absurd H (by simp)
    ·rw [if_neg c3] at H
     exact absurd H (by simp)
   ·rw [if_neg c2] at H
    have c2b0 : decide (x5_1 < (a0.size : Int)) = false := decide_eq_false c2
    clear c2
    obtain rfl := Option.some.inj H
    have hcv19 := own_string (P := Tryz.prog) Tryz.underlying137 Tryz.underlying5 Tryz.underlying9 (Kd.own_of_R HO_3.out)
    go_wp2
    go_ret
    exact ⟨by first | rfl | (simp [errW_none, errW_some] <;> rfl) | (simp [*, errW_none, errW_some] <;> rfl), by repeat (first | (with_reducible first | exact HB.out | apply below_alloc | apply pw_below_drewN | apply below_drew1) | exact HB.out)⟩
def gronx_literal.f (a0 : ByteArray) : Option (ByteArray) := if a0.toList = ([83, 85, 78] : List UInt8) then (some (⟨#[48]⟩ : ByteArray)) else (if a0.toList = ([77, 79, 78] : List UInt8) then (some (⟨#[49]⟩ : ByteArray)) else (if a0.toList = ([84, 85, 69] : List UInt8) then (some (⟨#[50]⟩ : ByteArray)) else (if a0.toList = ([87, 69, 68] : List UInt8) then (some (⟨#[51]⟩ : ByteArray)) else (if a0.toList = ([84, 72, 85] : List UInt8) then (some (⟨#[52]⟩ : ByteArray)) else (if a0.toList = ([70, 82, 73] : List UInt8) then (some (⟨#[53]⟩ : ByteArray)) else (if a0.toList = ([83, 65, 84] : List UInt8) then (some (⟨#[54]⟩ : ByteArray)) else (if a0.toList = ([74, 65, 78] : List UInt8) then (some (⟨#[49]⟩ : ByteArray)) else (if a0.toList = ([70, 69, 66] : List UInt8) then (some (⟨#[50]⟩ : ByteArray)) else (if a0.toList = ([77, 65, 82] : List UInt8) then (some (⟨#[51]⟩ : ByteArray)) else (if a0.toList = ([65, 80, 82] : List UInt8) then (some (⟨#[52]⟩ : ByteArray)) else (if a0.toList = ([77, 65, 89] : List UInt8) then (some (⟨#[53]⟩ : ByteArray)) else (if a0.toList = ([74, 85, 78] : List UInt8) then (some (⟨#[54]⟩ : ByteArray)) else (if a0.toList = ([74, 85, 76] : List UInt8) then (some (⟨#[55]⟩ : ByteArray)) else (if a0.toList = ([65, 85, 71] : List UInt8) then (some (⟨#[56]⟩ : ByteArray)) else (if a0.toList = ([83, 69, 80] : List UInt8) then (some (⟨#[57]⟩ : ByteArray)) else (if a0.toList = ([79, 67, 84] : List UInt8) then (some (⟨#[49, 48]⟩ : ByteArray)) else (if a0.toList = ([78, 79, 86] : List UInt8) then (some (⟨#[49, 49]⟩ : ByteArray)) else (if a0.toList = ([68, 69, 67] : List UInt8) then (some (⟨#[49, 50]⟩ : ByteArray)) else (some (⟨#[]⟩ : ByteArray))))))))))))))))))))
set_option maxHeartbeats 8000000 in
set_option maxRecDepth 100000 in
theorem gronx_literal.calls (a0 : ByteArray) (r : ByteArray) (w : World) (h : gronx_literal.f a0 = some r) :
  Calls Tryz.prog 73 #[.string a0] w fun e w' => e = .returned (.string r) ∧ Drawn0 w w' := by
 have H : (if a0.toList = ([83, 85, 78] : List UInt8) then (some (⟨#[48]⟩ : ByteArray)) else (if a0.toList = ([77, 79, 78] : List UInt8) then (some (⟨#[49]⟩ : ByteArray)) else (if a0.toList = ([84, 85, 69] : List UInt8) then (some (⟨#[50]⟩ : ByteArray)) else (if a0.toList = ([87, 69, 68] : List UInt8) then (some (⟨#[51]⟩ : ByteArray)) else (if a0.toList = ([84, 72, 85] : List UInt8) then (some (⟨#[52]⟩ : ByteArray)) else (if a0.toList = ([70, 82, 73] : List UInt8) then (some (⟨#[53]⟩ : ByteArray)) else (if a0.toList = ([83, 65, 84] : List UInt8) then (some (⟨#[54]⟩ : ByteArray)) else (if a0.toList = ([74, 65, 78] : List UInt8) then (some (⟨#[49]⟩ : ByteArray)) else (if a0.toList = ([70, 69, 66] : List UInt8) then (some (⟨#[50]⟩ : ByteArray)) else (if a0.toList = ([77, 65, 82] : List UInt8) then (some (⟨#[51]⟩ : ByteArray)) else (if a0.toList = ([65, 80, 82] : List UInt8) then (some (⟨#[52]⟩ : ByteArray)) else (if a0.toList = ([77, 65, 89] : List UInt8) then (some (⟨#[53]⟩ : ByteArray)) else (if a0.toList = ([74, 85, 78] : List UInt8) then (some (⟨#[54]⟩ : ByteArray)) else (if a0.toList = ([74, 85, 76] : List UInt8) then (some (⟨#[55]⟩ : ByteArray)) else (if a0.toList = ([65, 85, 71] : List UInt8) then (some (⟨#[56]⟩ : ByteArray)) else (if a0.toList = ([83, 69, 80] : List UInt8) then (some (⟨#[57]⟩ : ByteArray)) else (if a0.toList = ([79, 67, 84] : List UInt8) then (some (⟨#[49, 48]⟩ : ByteArray)) else (if a0.toList = ([78, 79, 86] : List UInt8) then (some (⟨#[49, 49]⟩ : ByteArray)) else (if a0.toList = ([68, 69, 67] : List UInt8) then (some (⟨#[49, 50]⟩ : ByteArray)) else (some (⟨#[]⟩ : ByteArray))))))))))))))))))))) = some r := h
 clear h
 by_cases c2 : a0.toList = ([83, 85, 78] : List UInt8)
 ·rw [if_pos c2] at H
  have c2b0 : (a0.toList == ([83, 85, 78] : List UInt8)) = true := beq_iff_eq.mpr c2
  have c2b1 : (a0.toList != ([83, 85, 78] : List UInt8)) = false := bne_eq_false_iff_eq.mpr c2
  clear c2
  obtain rfl := Option.some.inj H
  go_enter Tryz.func73, Tryz.ntmps73
  go_wp2
  go_ret
  exact ⟨by first | rfl | (simp; done) | (simp [*]; done), by repeat (first | exact Drawn0.refl _ | apply Drawn0.step)⟩
 ·rw [if_neg c2] at H
  have c2b0 : (a0.toList == ([83, 85, 78] : List UInt8)) = false := beq_eq_false_iff_ne.mpr c2
  have c2b1 : (a0.toList != ([83, 85, 78] : List UInt8)) = true := bne_iff_ne.mpr c2
  by_cases c3 : a0.toList = ([77, 79, 78] : List UInt8)
  ·rw [if_pos c3] at H
   have c3b0 : (a0.toList == ([77, 79, 78] : List UInt8)) = true := beq_iff_eq.mpr c3
   have c3b1 : (a0.toList != ([77, 79, 78] : List UInt8)) = false := bne_eq_false_iff_eq.mpr c3
   clear c3
   obtain rfl := Option.some.inj H
   go_enter Tryz.func73, Tryz.ntmps73
   go_wp2
   go_ret
   exact ⟨by first | rfl | (simp; done) | (simp [*]; done), by repeat (first | exact Drawn0.refl _ | apply Drawn0.step)⟩
  ·rw [if_neg c3] at H
   have c3b0 : (a0.toList == ([77, 79, 78] : List UInt8)) = false := beq_eq_false_iff_ne.mpr c3
   have c3b1 : (a0.toList != ([77, 79, 78] : List UInt8)) = true := bne_iff_ne.mpr c3
   by_cases c4 : a0.toList = ([84, 85, 69] : List UInt8)
   ·rw [if_pos c4] at H
    have c4b0 : (a0.toList == ([84, 85, 69] : List UInt8)) = true := beq_iff_eq.mpr c4
    have c4b1 : (a0.toList != ([84, 85, 69] : List UInt8)) = false := bne_eq_false_iff_eq.mpr c4
    clear c4
    obtain rfl := Option.some.inj H
    go_enter Tryz.func73, Tryz.ntmps73
    go_wp2
    go_ret
    exact ⟨by first | rfl | (simp; done) | (simp [*]; done), by repeat (first | exact Drawn0.refl _ | apply Drawn0.step)⟩
   ·rw [if_neg c4] at H
    have c4b0 : (a0.toList == ([84, 85, 69] : List UInt8)) = false := beq_eq_false_iff_ne.mpr c4
    have c4b1 : (a0.toList != ([84, 85, 69] : List UInt8)) = true := bne_iff_ne.mpr c4
    by_cases c5 : a0.toList = ([87, 69, 68] : List UInt8)
    ·rw [if_pos c5] at H
     have c5b0 : (a0.toList == ([87, 69, 68] : List UInt8)) = true := beq_iff_eq.mpr c5
     have c5b1 : (a0.toList != ([87, 69, 68] : List UInt8)) = false := bne_eq_false_iff_eq.mpr c5
     clear c5
     obtain rfl := Option.some.inj H
     go_enter Tryz.func73, Tryz.ntmps73
     go_wp2
     go_ret
     exact ⟨by first | rfl | (simp; done) | (simp [*]; done), by repeat (first | exact Drawn0.refl _ | apply Drawn0.step)⟩
    ·rw [if_neg c5] at H
     have c5b0 : (a0.toList == ([87, 69, 68] : List UInt8)) = false := beq_eq_false_iff_ne.mpr c5
     have c5b1 : (a0.toList != ([87, 69, 68] : List UInt8)) = true := bne_iff_ne.mpr c5
     by_cases c6 : a0.toList = ([84, 72, 85] : List UInt8)
     ·rw [if_pos c6] at H
      have c6b0 : (a0.toList == ([84, 72, 85] : List UInt8)) = true := beq_iff_eq.mpr c6
      have c6b1 : (a0.toList != ([84, 72, 85] : List UInt8)) = false := bne_eq_false_iff_eq.mpr c6
      clear c6
      obtain rfl := Option.some.inj H
      go_enter Tryz.func73, Tryz.ntmps73
      go_wp2
      go_ret
      exact ⟨by first | rfl | (simp; done) | (simp [*]; done), by repeat (first | exact Drawn0.refl _ | apply Drawn0.step)⟩
     ·rw [if_neg c6] at H
      have c6b0 : (a0.toList == ([84, 72, 85] : List UInt8)) = false := beq_eq_false_iff_ne.mpr c6
      have c6b1 : (a0.toList != ([84, 72, 85] : List UInt8)) = true := bne_iff_ne.mpr c6
      by_cases c7 : a0.toList = ([70, 82, 73] : List UInt8)
      ·rw [if_pos c7] at H
       have c7b0 : (a0.toList == ([70, 82, 73] : List UInt8)) = true := beq_iff_eq.mpr c7
       have c7b1 : (a0.toList != ([70, 82, 73] : List UInt8)) = false := bne_eq_false_iff_eq.mpr c7
       clear c7
       obtain rfl := Option.some.inj H
       go_enter Tryz.func73, Tryz.ntmps73
       go_wp2
       go_ret
       exact ⟨by first | rfl | (simp; done) | (simp [*]; done), by repeat (first | exact Drawn0.refl _ | apply Drawn0.step)⟩
      ·rw [if_neg c7] at H
       have c7b0 : (a0.toList == ([70, 82, 73] : List UInt8)) = false := beq_eq_false_iff_ne.mpr c7
       have c7b1 : (a0.toList != ([70, 82, 73] : List UInt8)) = true := bne_iff_ne.mpr c7
       by_cases c8 : a0.toList = ([83, 65, 84] : List UInt8)
       ·rw [if_pos c8] at H
        have c8b0 : (a0.toList == ([83, 65, 84] : List UInt8)) = true := beq_iff_eq.mpr c8
        have c8b1 : (a0.toList != ([83, 65, 84] : List UInt8)) = false := bne_eq_false_iff_eq.mpr c8
        clear c8
        obtain rfl := Option.some.inj H
        go_enter Tryz.func73, Tryz.ntmps73
        go_wp2
        go_ret
        exact ⟨by first | rfl | (simp; done) | (simp [*]; done), by repeat (first | exact Drawn0.refl _ | apply Drawn0.step)⟩
       ·rw [if_neg c8] at H
        have c8b0 : (a0.toList == ([83, 65, 84] : List UInt8)) = false := beq_eq_false_iff_ne.mpr c8
        have c8b1 : (a0.toList != ([83, 65, 84] : List UInt8)) = true := bne_iff_ne.mpr c8
        by_cases c9 : a0.toList = ([74, 65, 78] : List UInt8)
        ·rw [if_pos c9] at H
         have c9b0 : (a0.toList == ([74, 65, 78] : List UInt8)) = true := beq_iff_eq.mpr c9
         have c9b1 : (a0.toList != ([74, 65, 78] : List UInt8)) = false := bne_eq_false_iff_eq.mpr c9
         clear c9
         obtain rfl := Option.some.inj H
         go_enter Tryz.func73, Tryz.ntmps73
         go_wp2
         go_ret
         exact ⟨by first | rfl | (simp; done) | (simp [*]; done), by repeat (first | exact Drawn0.refl _ | apply Drawn0.step)⟩
        ·rw [if_neg c9] at H
         have c9b0 : (a0.toList == ([74, 65, 78] : List UInt8)) = false := beq_eq_false_iff_ne.mpr c9
         have c9b1 : (a0.toList != ([74, 65, 78] : List UInt8)) = true := bne_iff_ne.mpr c9
         by_cases c10 : a0.toList = ([70, 69, 66] : List UInt8)
         ·rw [if_pos c10] at H
          have c10b0 : (a0.toList == ([70, 69, 66] : List UInt8)) = true := beq_iff_eq.mpr c10
          have c10b1 : (a0.toList != ([70, 69, 66] : List UInt8)) = false := bne_eq_false_iff_eq.mpr c10
          clear c10
          obtain rfl := Option.some.inj H
          go_enter Tryz.func73, Tryz.ntmps73
          go_wp2
          go_ret
          exact ⟨by first | rfl | (simp; done) | (simp [*]; done), by repeat (first | exact Drawn0.refl _ | apply Drawn0.step)⟩
         ·rw [if_neg c10] at H
          have c10b0 : (a0.toList == ([70, 69, 66] : List UInt8)) = false := beq_eq_false_iff_ne.mpr c10
          have c10b1 : (a0.toList != ([70, 69, 66] : List UInt8)) = true := bne_iff_ne.mpr c10
          by_cases c11 : a0.toList = ([77, 65, 82] : List UInt8)
          ·rw [if_pos c11] at H
           have c11b0 : (a0.toList == ([77, 65, 82] : List UInt8)) = true := beq_iff_eq.mpr c11
           have c11b1 : (a0.toList != ([77, 65, 82] : List UInt8)) = false := bne_eq_false_iff_eq.mpr c11
           clear c11
           obtain rfl := Option.some.inj H
           go_enter Tryz.func73, Tryz.ntmps73
           go_wp2
           go_ret
           exact ⟨by first | rfl | (simp; done) | (simp [*]; done), by repeat (first | exact Drawn0.refl _ | apply Drawn0.step)⟩
          ·rw [if_neg c11] at H
           have c11b0 : (a0.toList == ([77, 65, 82] : List UInt8)) = false := beq_eq_false_iff_ne.mpr c11
           have c11b1 : (a0.toList != ([77, 65, 82] : List UInt8)) = true := bne_iff_ne.mpr c11
           by_cases c12 : a0.toList = ([65, 80, 82] : List UInt8)
           ·rw [if_pos c12] at H
            have c12b0 : (a0.toList == ([65, 80, 82] : List UInt8)) = true := beq_iff_eq.mpr c12
            have c12b1 : (a0.toList != ([65, 80, 82] : List UInt8)) = false := bne_eq_false_iff_eq.mpr c12
            clear c12
            obtain rfl := Option.some.inj H
            go_enter Tryz.func73, Tryz.ntmps73
            go_wp2
            go_ret
            exact ⟨by first | rfl | (simp; done) | (simp [*]; done), by repeat (first | exact Drawn0.refl _ | apply Drawn0.step)⟩
           ·rw [if_neg c12] at H
            have c12b0 : (a0.toList == ([65, 80, 82] : List UInt8)) = false := beq_eq_false_iff_ne.mpr c12
            have c12b1 : (a0.toList != ([65, 80, 82] : List UInt8)) = true := bne_iff_ne.mpr c12
            by_cases c13 : a0.toList = ([77, 65, 89] : List UInt8)
            ·rw [if_pos c13] at H
             have c13b0 : (a0.toList == ([77, 65, 89] : List UInt8)) = true := beq_iff_eq.mpr c13
             have c13b1 : (a0.toList != ([77, 65, 89] : List UInt8)) = false := bne_eq_false_iff_eq.mpr c13
             clear c13
             obtain rfl := Option.some.inj H
             go_enter Tryz.func73, Tryz.ntmps73
             go_wp2
             go_ret
             exact ⟨by first | rfl | (simp; done) | (simp [*]; done), by repeat (first | exact Drawn0.refl _ | apply Drawn0.step)⟩
            ·rw [if_neg c13] at H
             have c13b0 : (a0.toList == ([77, 65, 89] : List UInt8)) = false := beq_eq_false_iff_ne.mpr c13
             have c13b1 : (a0.toList != ([77, 65, 89] : List UInt8)) = true := bne_iff_ne.mpr c13
             by_cases c14 : a0.toList = ([74, 85, 78] : List UInt8)
             ·rw [if_pos c14] at H
              have c14b0 : (a0.toList == ([74, 85, 78] : List UInt8)) = true := beq_iff_eq.mpr c14
              have c14b1 : (a0.toList != ([74, 85, 78] : List UInt8)) = false := bne_eq_false_iff_eq.mpr c14
              clear c14
              obtain rfl := Option.some.inj H
              go_enter Tryz.func73, Tryz.ntmps73
              go_wp2
              go_ret
              exact ⟨by first | rfl | (simp; done) | (simp [*]; done), by repeat (first | exact Drawn0.refl _ | apply Drawn0.step)⟩
             ·rw [if_neg c14] at H
              have c14b0 : (a0.toList == ([74, 85, 78] : List UInt8)) = false := beq_eq_false_iff_ne.mpr c14
              have c14b1 : (a0.toList != ([74, 85, 78] : List UInt8)) = true := bne_iff_ne.mpr c14
              by_cases c15 : a0.toList = ([74, 85, 76] : List UInt8)
              ·rw [if_pos c15] at H
               have c15b0 : (a0.toList == ([74, 85, 76] : List UInt8)) = true := beq_iff_eq.mpr c15
               have c15b1 : (a0.toList != ([74, 85, 76] : List UInt8)) = false := bne_eq_false_iff_eq.mpr c15
               clear c15
               obtain rfl := Option.some.inj H
               go_enter Tryz.func73, Tryz.ntmps73
               go_wp2
               go_ret
               exact ⟨by first | rfl | (simp; done) | (simp [*]; done), by repeat (first | exact Drawn0.refl _ | apply Drawn0.step)⟩
              ·rw [if_neg c15] at H
               have c15b0 : (a0.toList == ([74, 85, 76] : List UInt8)) = false := beq_eq_false_iff_ne.mpr c15
               have c15b1 : (a0.toList != ([74, 85, 76] : List UInt8)) = true := bne_iff_ne.mpr c15
               by_cases c16 : a0.toList = ([65, 85, 71] : List UInt8)
               ·rw [if_pos c16] at H
                have c16b0 : (a0.toList == ([65, 85, 71] : List UInt8)) = true := beq_iff_eq.mpr c16
                have c16b1 : (a0.toList != ([65, 85, 71] : List UInt8)) = false := bne_eq_false_iff_eq.mpr c16
                clear c16
                obtain rfl := Option.some.inj H
                go_enter Tryz.func73, Tryz.ntmps73
                go_wp2
                go_ret
                exact ⟨by first | rfl | (simp; done) | (simp [*]; done), by repeat (first | exact Drawn0.refl _ | apply Drawn0.step)⟩
               ·rw [if_neg c16] at H
                have c16b0 : (a0.toList == ([65, 85, 71] : List UInt8)) = false := beq_eq_false_iff_ne.mpr c16
                have c16b1 : (a0.toList != ([65, 85, 71] : List UInt8)) = true := bne_iff_ne.mpr c16
                by_cases c17 : a0.toList = ([83, 69, 80] : List UInt8)
                ·rw [if_pos c17] at H
                 have c17b0 : (a0.toList == ([83, 69, 80] : List UInt8)) = true := beq_iff_eq.mpr c17
                 have c17b1 : (a0.toList != ([83, 69, 80] : List UInt8)) = false := bne_eq_false_iff_eq.mpr c17
                 clear c17
                 obtain rfl := Option.some.inj H
                 go_enter Tryz.func73, Tryz.ntmps73
                 go_wp2
                 go_ret
                 exact ⟨by first | rfl | (simp; done) | (simp [*]; done), by repeat (first | exact Drawn0.refl _ | apply Drawn0.step)⟩
                ·rw [if_neg c17] at H
                 have c17b0 : (a0.toList == ([83, 69, 80] : List UInt8)) = false := beq_eq_false_iff_ne.mpr c17
                 have c17b1 : (a0.toList != ([83, 69, 80] : List UInt8)) = true := bne_iff_ne.mpr c17
                 by_cases c18 : a0.toList = ([79, 67, 84] : List UInt8)
                 ·rw [if_pos c18] at H
                  have c18b0 : (a0.toList == ([79, 67, 84] : List UInt8)) = true := beq_iff_eq.mpr c18
                  have c18b1 : (a0.toList != ([79, 67, 84] : List UInt8)) = false := bne_eq_false_iff_eq.mpr c18
                  clear c18
                  obtain rfl := Option.some.inj H
                  go_enter Tryz.func73, Tryz.ntmps73
                  go_wp2
                  go_ret
                  exact ⟨by first | rfl | (simp; done) | (simp [*]; done), by repeat (first | exact Drawn0.refl _ | apply Drawn0.step)⟩
                 ·rw [if_neg c18] at H
                  have c18b0 : (a0.toList == ([79, 67, 84] : List UInt8)) = false := beq_eq_false_iff_ne.mpr c18
                  have c18b1 : (a0.toList != ([79, 67, 84] : List UInt8)) = true := bne_iff_ne.mpr c18
                  by_cases c19 : a0.toList = ([78, 79, 86] : List UInt8)
                  ·rw [if_pos c19] at H
                   have c19b0 : (a0.toList == ([78, 79, 86] : List UInt8)) = true := beq_iff_eq.mpr c19
                   have c19b1 : (a0.toList != ([78, 79, 86] : List UInt8)) = false := bne_eq_false_iff_eq.mpr c19
                   clear c19
                   obtain rfl := Option.some.inj H
                   go_enter Tryz.func73, Tryz.ntmps73
                   go_wp2
                   go_ret
                   exact ⟨by first | rfl | (simp; done) | (simp [*]; done), by repeat (first | exact Drawn0.refl _ | apply Drawn0.step)⟩
                  ·rw [if_neg c19] at H
                   have c19b0 : (a0.toList == ([78, 79, 86] : List UInt8)) = false := beq_eq_false_iff_ne.mpr c19
                   have c19b1 : (a0.toList != ([78, 79, 86] : List UInt8)) = true := bne_iff_ne.mpr c19
                   by_cases c20 : a0.toList = ([68, 69, 67] : List UInt8)
                   ·rw [if_pos c20] at H
                    have c20b0 : (a0.toList == ([68, 69, 67] : List UInt8)) = true := beq_iff_eq.mpr c20
                    have c20b1 : (a0.toList != ([68, 69, 67] : List UInt8)) = false := bne_eq_false_iff_eq.mpr c20
                    clear c20
                    obtain rfl := Option.some.inj H
                    go_enter Tryz.func73, Tryz.ntmps73
                    go_wp2
                    go_ret
                    exact ⟨by first | rfl | (simp; done) | (simp [*]; done), by repeat (first | exact Drawn0.refl _ | apply Drawn0.step)⟩
                   ·rw [if_neg c20] at H
                    have c20b0 : (a0.toList == ([68, 69, 67] : List UInt8)) = false := beq_eq_false_iff_ne.mpr c20
                    have c20b1 : (a0.toList != ([68, 69, 67] : List UInt8)) = true := bne_iff_ne.mpr c20
                    obtain rfl := Option.some.inj H
                    go_enter Tryz.func73, Tryz.ntmps73
                    go_wp2
                    go_ret
                    exact ⟨by first | rfl | (simp; done) | (simp [*]; done), by repeat (first | exact Drawn0.refl _ | apply Drawn0.step)⟩
def gronx_zzLiterals.l0 : Nat → ByteArray → List Int → Int → Option (ByteArray)
 | 0, _, _, _ => none
 | k + 1, x0, x3, x4 => if x4 < (x0.size : Int) then (if (wrap64 (x4 + 3)) ≤ (x0.size : Int) then (if 0 ≤ x4 then (if x4 ≤ (wrap64 (x4 + 3)) then ((gronx_literal.f (x0.extract (x4 : Int).toNat ((wrap64 (x4 + 3)) : Int).toNat)).bind fun t329 => (if t329.toList = ([] : List UInt8) then (if x3.length < 140737488355328 then (gronx_zzLiterals.l0 k x0 (x3 ++ [bt x0 x4]) (wrap64 (x4 + 1))) else (none)) else (if x3.length + t329.size < 140737488355328 then (gronx_zzLiterals.l0 k x0 (x3 ++ bytesOf t329) (wrap64 (x4 + 3))) else (none)))) else (none)) else (none)) else (if 0 ≤ x4 then (if x3.length < 140737488355328 then (gronx_zzLiterals.l0 k x0 (x3 ++ [bt x0 x4]) (wrap64 (x4 + 1))) else (none)) else (none))) else (some (strOfNums x3))
def gronx_zzLiterals.f (k : Nat) (a0 : ByteArray) : Option (ByteArray) := gronx_zzLiterals.l0 k a0 ([] : List Int) 0
theorem gronx_zzLiterals.mono_l : ∀ k, (∀ y0 y1 y2, LeO (gronx_zzLiterals.l0 k y0 y1 y2) (gronx_zzLiterals.l0 (k + 1) y0 y1 y2))
 | 0 => fun _ _ _ r h => by simp [gronx_zzLiterals.l0] at h
 | k + 1 => by
  have ih0 := gronx_zzLiterals.mono_l k
  ·intro y0 y1 y2
   unfold gronx_zzLiterals.l0
   repeat' first
   | (with_reducible exact ih0 _ _ _)
   | (with_reducible exact LeO.refl _)
   | (with_reducible exact LeO.none _)
   | (with_reducible refine LeO.ite ?_ ?_)
   | (with_reducible refine LeO.bind ?_ (fun _ => ?_))
   | exact ih0 _ _ _
   | exact LeO.none _
   | refine LeO.ite ?_ ?_
   | refine LeO.bind ?_ (fun _ => ?_)
theorem gronx_zzLiterals.mono : ∀ a0 k, LeO (gronx_zzLiterals.f k a0) (gronx_zzLiterals.f (k + 1) a0) := by
 intro a0 k
 have ih0 := gronx_zzLiterals.mono_l k
 unfold gronx_zzLiterals.f
 repeat' first
   | (with_reducible exact ih0 _ _ _)
   | (with_reducible exact LeO.refl _)
   | (with_reducible exact LeO.none _)
   | (with_reducible refine LeO.ite ?_ ?_)
   | (with_reducible refine LeO.bind ?_ (fun _ => ?_))
   | exact ih0 _ _ _
   | exact LeO.none _
   | refine LeO.ite ?_ ?_
   | refine LeO.bind ?_ (fun _ => ?_)
set_option maxHeartbeats 8000000 in
set_option maxRecDepth 100000 in
theorem gronx_zzLiterals.calls (k : Nat) (a0 : ByteArray) (r : ByteArray) (w : World) (h : gronx_zzLiterals.f k a0 = some r) :
  Calls Tryz.prog 60 #[.string a0] w fun e w' => e = .returned (.string r) ∧ Below w.heap.size w w' := by
 have HB := Aside0.mk (Below.refl w.heap.size w)
 have H : (gronx_zzLiterals.l0 k a0 ([] : List Int) 0) = some r := h
 clear h
 have H' := Aside0.mk H
 clear H
 go_enter Tryz.func60, Tryz.ntmps60
 go_wp2
 go_loopg [3, 4] k (fun kq v3 v4 w' => ∃ (x3_1 : List Int) (x4_1 : Int), v4 = .int .i64 x4_1 ∧ Aside0 (gronx_zzLiterals.l0 kq a0 x3_1 x4_1 = some r) ∧ Aside0 (kq ≤ k) ∧ Aside0 (Kd.R (Kd.int .u8) 5 w' w.heap.size (fun _ => True) v3 x3_1) ∧ Aside0 (Below w.heap.size w w'))
 case atStart => exact ⟨(([] : List Int)), (0), (by first | rfl | (simp; done) | (simp [*]; done)), H', ⟨Nat.le_refl _⟩, ⟨by first | exact Kd.R_nil _ _ _ _ _ | exact Kd.N_nil _ _ _ _ _ | exact Kd.V_nil _ _ _ _ _ | exact Kd.Q_nil _ _ _ _ _ | exact Kd.S_nil _ _ _ _ _⟩, ⟨by repeat (first | (with_reducible first | exact HB.out | apply below_alloc | apply pw_below_drewN | apply below_drew1) | exact HB.out)⟩⟩
 case round =>
  clear H'
  obtain ⟨x3_1, x4_1, rfl, HA, HK1, HO_3, HB⟩ := hrel
  cases gk with
  | zero => exact absurd HA.out (by simp [gronx_zzLiterals.l0])
  | succ k1 =>
   have H := HA.out
   clear HA
   simp only [gronx_zzLiterals.l0] at H
   by_cases c2 : x4_1 < (a0.size : Int)
   ·rw [if_pos c2] at H
    have c2b0 : decide (x4_1 < (a0.size : Int)) = true := decide_eq_true c2
    clear c2
    by_cases c3 : (wrap64 (x4_1 + 3)) ≤ (a0.size : Int)
    ·rw [if_pos c3] at H
     have c3b0 : decide ((wrap64 (x4_1 + 3)) ≤ (a0.size : Int)) = true := decide_eq_true c3
     clear c3
     by_cases c4 : 0 ≤ x4_1
     ·rw [if_pos c4] at H
      have c4b0 := eq_true c4
      have c4b1 : decide (0 ≤ x4_1) = true := decide_eq_true c4
      clear c4
      by_cases c5 : x4_1 ≤ (wrap64 (x4_1 + 3))
      ·rw [if_pos c5] at H
       have c5b0 := eq_true c5
       have c5b1 : decide (x4_1 ≤ (wrap64 (x4_1 + 3))) = true := decide_eq_true c5
       have c6b0 := eq_true (of_decide_eq_true (by first | (with_reducible assumption) | assumption) : (wrap64 (x4_1 + 3)) ≤ (a0.size : Int))
       replace H := Option.bind_eq_some_iff.mp H
       obtain ⟨t329, A70, H⟩ := H
       replace H : (if t329.toList = ([] : List UInt8) then (if x3_1.length < 140737488355328 then (gronx_zzLiterals.l0 k1 a0 (x3_1 ++ [bt a0 x4_1]) (wrap64 (x4_1 + 1))) else (none)) else (if x3_1.length + t329.size < 140737488355328 then (gronx_zzLiterals.l0 k1 a0 (x3_1 ++ bytesOf t329) (wrap64 (x4_1 + 3))) else (none))) = some r := H
       have A7 := Aside0.mk A70
       clear A70
       by_cases c8 : t329.toList = ([] : List UInt8)
       ·rw [if_pos c8] at H
        have c8b0 : (t329.toList == ([] : List UInt8)) = true := beq_iff_eq.mpr c8
        have c8b1 : (t329.toList != ([] : List UInt8)) = false := bne_eq_false_iff_eq.mpr c8
        clear c8
        by_cases c10 : x3_1.length < 140737488355328
        ·rw [if_pos c10] at H
         have LMc10 := Aside0.mk c10
         clear c10
         obtain ⟨y330, hy330⟩ : ∃ y_ : List Int, y_ = (x3_1 ++ [bt a0 x4_1]) := ⟨_, rfl⟩
         replace H : (gronx_zzLiterals.l0 k1 a0 y330 (wrap64 (x4_1 + 1))) = some r := by first | (rw [hy330]; with_reducible exact H) | (have H2_ := (Option.bind_some _ _).symm.trans H; rw [hy330]; with_reducible exact H2_) | (have H2_ := (Option.bind_some _ _).symm.trans H; with_reducible exact H2_) | with_reducible exact H | (rw [hy330]; exact H) | exact H
         have Ny330 := Aside0.mk hy330
         clear hy330
         have H' := Aside0.mk H
         clear H
         go_wp2_with (first | ((with_reducible refine gate_callee (f := 73) rfl ?_); refine goesL_ (some 20) rfl rfl Tryz.func73 (by kernel_rfl) rfl #[.string (a0.extract (x4_1 : Int).toNat ((wrap64 (x4_1 + 3)) : Int).toNat)] rfl (by (try simp only [List.map_toArray, List.map_cons, List.map_nil]); first | done | rfl | (simp only [List.length_drop, List.length_take]; rfl)) ?_; (with_reducible refine (gronx_literal.calls (a0.extract (x4_1 : Int).toNat ((wrap64 (x4_1 + 3)) : Int).toNat) t329 _ A7.out).mono ?_); rintro e w' ⟨rfl, ⟨nd, rfl⟩⟩; refine ⟨_, rfl, ?_⟩; have p9 : 0 ≤ (x4_1 : Int) := of_decide_eq_true (by first | (with_reducible assumption) | assumption); have q9 : x4_1 < (a0.size : Int) := of_decide_eq_true (by first | (with_reducible assumption) | assumption); have hx9 := bt_at a0 x4_1; replace p9 := eq_true p9; replace q9 := eq_true q9) | ((with_reducible refine gate_builtin (b := .append) (xs := #[.tmp 28, .tmp 32]) rfl ?_); at_builtin; refine Kd.R_append (Kd.int .u8) (w0 := w) w.heap.size rfl (.tmp 28) (.tmp 32) 137 5 (.int .u8 0) 1 rfl Tryz.underlying137 info5 rfl (by decide) (by omega) u3 x3_1 (bt a0 x4_1) [.int .u8 (bt a0 x4_1)] (fun _ => True) (fun _ => False) rfl rfl ?aP (fun _ hk => hk.elim) ?aF ?aO ?aB ?aS ?aL ?_; (case aP => exact rfl); (case aB => exact (by repeat (first | (with_reducible first | exact HB.out | apply below_alloc | apply pw_below_drewN | apply below_drew1) | exact HB.out))); (case aF => exact (fun _ _ => trivial)); (case aO => exact (by (with_reducible repeat (first | apply Kd.R_alloc | apply Kd.R_drewN | apply Kd.R_drew)); exact HO_3.out)); (case aS => exact (below_size (by repeat (first | (with_reducible first | exact HB.out | apply below_alloc | apply pw_below_drewN | apply below_drew1) | exact HB.out)))); (case aL => have := LMc10.out; omega); intro v331 w11 ho hb hg hat; rw [← Ny330.out] at ho; have n0_ := Aside0.mk (hb); have n1_ := Aside0.mk (ho); clear HB; clear HO_3; have HB := n0_; have HO332 := n1_; clear n0_ n1_; clear ho hb hg hat))
         go_roundg k1
         case measure => have := HK1.out; omega
         case rel => exact ⟨(y330), (wrap64 (x4_1 + 1)), (by first | rfl | (simp; done) | (simp [*]; done)), H', ⟨by have := HK1.out; omega⟩, ⟨by (with_reducible repeat (first | apply Kd.R_alloc | apply Kd.R_drewN | apply Kd.R_drew)); exact HO332.out⟩, ⟨by repeat (first | (with_reducible first | exact HB.out | apply below_alloc | apply pw_below_drewN | apply below_drew1) | exact HB.out)⟩⟩
        ·rw [if_neg c10] at H
         exact absurd H (by simp)
       ·rw [if_neg c8] at H
        have c8b0 : (t329.toList == ([] : List UInt8)) = false := beq_eq_false_iff_ne.mpr c8
        have c8b1 : (t329.toList != ([] : List UInt8)) = true := bne_iff_ne.mpr c8
        by_cases c12 : x3_1.length + t329.size < 140737488355328
        ·rw [if_pos c12] at H
         have LMc12 := Aside0.mk c12
         clear c12
         obtain ⟨y333, hy333⟩ : ∃ y_ : List Int, y_ = (x3_1 ++ bytesOf t329) := ⟨_, rfl⟩
         replace H : (gronx_zzLiterals.l0 k1 a0 y333 (wrap64 (x4_1 + 3))) = some r := by first | (rw [hy333]; with_reducible exact H) | (have H2_ := (Option.bind_some _ _).symm.trans H; rw [hy333]; with_reducible exact H2_) | (have H2_ := (Option.bind_some _ _).symm.trans H; with_reducible exact H2_) | with_reducible exact H | (rw [hy333]; exact H) | exact H
         have Ny333 := Aside0.mk hy333
         clear hy333
         have H' := Aside0.mk H
         clear H
         go_wp2_with (first | ((with_reducible refine gate_callee (f := 73) rfl ?_); refine goesL_ (some 20) rfl rfl Tryz.func73 (by kernel_rfl) rfl #[.string (a0.extract (x4_1 : Int).toNat ((wrap64 (x4_1 + 3)) : Int).toNat)] rfl (by (try simp only [List.map_toArray, List.map_cons, List.map_nil]); first | done | rfl | (simp only [List.length_drop, List.length_take]; rfl)) ?_; (with_reducible refine (gronx_literal.calls (a0.extract (x4_1 : Int).toNat ((wrap64 (x4_1 + 3)) : Int).toNat) t329 _ A7.out).mono ?_); rintro e w' ⟨rfl, ⟨nd, rfl⟩⟩; refine ⟨_, rfl, ?_⟩) | (at_builtin; refine print_append_str (w0 := w) w.heap.size rfl (.tmp 23) _ 137 9 5 rfl Tryz.underlying137 Tryz.underlying9 info5 u3 x3_1 t329 rfl rfl ?aO ?aB ?aS ?aL ?_; (case aB => exact (by repeat (first | (with_reducible first | exact HB.out | apply below_alloc | apply pw_below_drewN | apply below_drew1) | exact HB.out))); (case aO => exact (Kd.own_of_R (by (with_reducible repeat (first | apply Kd.R_alloc | apply Kd.R_drewN | apply Kd.R_drew)); exact HO_3.out))); (case aS => exact (below_size (by repeat (first | (with_reducible first | exact HB.out | apply below_alloc | apply pw_below_drewN | apply below_drew1) | exact HB.out)))); (case aL => have := LMc12.out; omega); intro v334 w13 ho0 hb hg; have ho := Kd.R_of_own (h1 := fun _ => rfl) (ok := fun _ => True) ho0 (fun _ _ => trivial); clear ho0; have hat := True.intro; rw [← Ny333.out] at ho; change Kd.R (Kd.int .u8) 5 w13 w.heap.size (fun _ => True) v334 y333 at ho; have n0_ := Aside0.mk (hb); have n1_ := Aside0.mk (ho); clear HB; clear HO_3; have HB := n0_; have HO335 := n1_; clear n0_ n1_; clear ho hb hg hat))
         go_roundg k1
         case measure => have := HK1.out; omega
         case rel => exact ⟨(y333), (wrap64 (x4_1 + 3)), (by first | rfl | (simp; done) | (simp [*]; done)), H', ⟨by have := HK1.out; omega⟩, ⟨by (with_reducible repeat (first | apply Kd.R_alloc | apply Kd.R_drewN | apply Kd.R_drew)); exact HO335.out⟩, ⟨by repeat (first | (with_reducible first | exact HB.out | apply below_alloc | apply pw_below_drewN | apply below_drew1) | exact HB.out)⟩⟩
        ·rw [if_neg c12] at H
         exact absurd H (by simp)
      ·rw [if_neg c5] at H
       exact absurd H (by simp)
     ·rw [if_neg c4] at H
      exact absurd H (by simp)
    ·rw [if_neg c3] at H
     have c3b0 : decide ((wrap64 (x4_1 + 3)) ≤ (a0.size : Int)) = false := decide_eq_false c3
     clear c3
     by_cases c14 : 0 ≤ x4_1
     ·rw [if_pos c14] at H
      have c14b0 : decide (0 ≤ x4_1) = true := decide_eq_true c14
      clear c14
      by_cases c16 : x3_1.length < 140737488355328
      ·rw [if_pos c16] at H
       have LMc16 := Aside0.mk c16
       clear c16
       obtain ⟨y336, hy336⟩ : ∃ y_ : List Int, y_ = (x3_1 ++ [bt a0 x4_1]) := ⟨_, rfl⟩
       replace H : (gronx_zzLiterals.l0 k1 a0 y336 (wrap64 (x4_1 + 1))) = some r := by first | (rw [hy336]; with_reducible exact H) | (have H2_ := (Option.bind_some _ _).symm.trans H; rw [hy336]; with_reducible exact H2_) | (have H2_ := (Option.bind_some _ _).symm.trans H; with_reducible exact H2_) | with_reducible exact H | (rw [hy336]; exact H) | exact H
       have Ny336 := Aside0.mk hy336
       clear hy336
       have H' := Aside0.mk H
       clear H
       have p15 : 0 ≤ (x4_1 : Int) := of_decide_eq_true (by first | (with_reducible assumption) | assumption)
       have q15 : x4_1 < (a0.size : Int) := of_decide_eq_true (by first | (with_reducible assumption) | assumption)
       have hx15 := bt_at a0 x4_1
       replace p15 := eq_true p15
       replace q15 := eq_true q15
       go_wp2_with (first | ((with_reducible refine gate_builtin (b := .append) (xs := #[.tmp 28, .tmp 32]) rfl ?_); at_builtin; refine Kd.R_append (Kd.int .u8) (w0 := w) w.heap.size rfl (.tmp 28) (.tmp 32) 137 5 (.int .u8 0) 1 rfl Tryz.underlying137 info5 rfl (by decide) (by omega) u3 x3_1 (bt a0 x4_1) [.int .u8 (bt a0 x4_1)] (fun _ => True) (fun _ => False) rfl rfl ?aP (fun _ hk => hk.elim) ?aF ?aO ?aB ?aS ?aL ?_; (case aP => exact rfl); (case aB => exact (by repeat (first | (with_reducible first | exact HB.out | apply below_alloc | apply pw_below_drewN | apply below_drew1) | exact HB.out))); (case aF => exact (fun _ _ => trivial)); (case aO => exact (by (with_reducible repeat (first | apply Kd.R_alloc | apply Kd.R_drewN | apply Kd.R_drew)); exact HO_3.out)); (case aS => exact (below_size (by repeat (first | (with_reducible first | exact HB.out | apply below_alloc | apply pw_below_drewN | apply below_drew1) | exact HB.out)))); (case aL => have := LMc16.out; omega); intro v337 w17 ho hb hg hat; rw [← Ny336.out] at ho; have n0_ := Aside0.mk (hb); have n1_ := Aside0.mk (ho); clear HB; clear HO_3; have HB := n0_; have HO338 := n1_; clear n0_ n1_; clear ho hb hg hat))
       go_roundg k1
       case measure => have := HK1.out; omega
       case rel => exact ⟨(y336), (wrap64 (x4_1 + 1)), (by first | rfl | (simp; done) | (simp [*]; done)), H', ⟨by have := HK1.out; omega⟩, ⟨by (with_reducible repeat (first | apply Kd.R_alloc | apply Kd.R_drewN | apply Kd.R_drew)); exact HO338.out⟩, ⟨by repeat (first | (with_reducible first | exact HB.out | apply below_alloc | apply pw_below_drewN | apply below_drew1) | exact HB.out)⟩⟩
      ·rw [if_neg c16] at H
       exact absurd H (by simp)
     ·rw [if_neg c14] at H
      exact absurd H (by simp)
   ·rw [if_neg c2] at H
    have c2b0 : decide (x4_1 < (a0.size : Int)) = false := decide_eq_false c2
    clear c2
    obtain rfl := Option.some.inj H
    have hcv18 := own_string (P := Tryz.prog) Tryz.underlying137 Tryz.underlying5 Tryz.underlying9 (Kd.own_of_R HO_3.out)
    go_wp2
    go_ret
    exact ⟨by first | rfl | (simp [errW_none, errW_some] <;> rfl) | (simp [*, errW_none, errW_some] <;> rfl), by repeat (first | (with_reducible first | exact HB.out | apply below_alloc | apply pw_below_drewN | apply below_drew1) | exact HB.out)⟩
def gronx_zzReplaceAll.l0 : Nat → ByteArray → ByteArray → ByteArray → List Int → Option (ByteArray)
 | 0, _, _, _, _ => none
 | k + 1, x0, x1, x2, x7 => (gronx_zzIndex.f k x0 x1).bind fun t346 => (if t346 < 0 then (if x7.length + x0.size < 140737488355328 then (some (strOfNums (x7 ++ bytesOf x0))) else (none)) else (if 0 ≤ t346 then (if t346 ≤ (x0.size : Int) then (if x7.length + (x0.extract 0 (t346 : Int).toNat).size < 140737488355328 then ((some (x7 ++ bytesOf (x0.extract 0 (t346 : Int).toNat) : List Int)).bind fun y350 => (if y350.length + x2.size < 140737488355328 then (if 0 ≤ (wrap64 (t346 + (x1.size : Int))) then (if (wrap64 (t346 + (x1.size : Int))) ≤ (x0.size : Int) then (gronx_zzReplaceAll.l0 k (x0.extract ((wrap64 (t346 + (x1.size : Int))) : Int).toNat x0.size) x1 x2 (y350 ++ bytesOf x2)) else (none)) else (none)) else (none))) else (none)) else (none)) else (none)))
def gronx_zzReplaceAll.f (k : Nat) (a0 : ByteArray) (a1 : ByteArray) (a2 : ByteArray) : Option (ByteArray) := gronx_zzReplaceAll.l0 k a0 a1 a2 ([] : List Int)
theorem gronx_zzReplaceAll.mono_l : ∀ k, (∀ y0 y1 y2 y3, LeO (gronx_zzReplaceAll.l0 k y0 y1 y2 y3) (gronx_zzReplaceAll.l0 (k + 1) y0 y1 y2 y3))
 | 0 => fun _ _ _ _ r h => by simp [gronx_zzReplaceAll.l0] at h
 | k + 1 => by
  have ih0 := gronx_zzReplaceAll.mono_l k
  ·intro y0 y1 y2 y3
   unfold gronx_zzReplaceAll.l0
   repeat' first
   | (with_reducible exact ih0 _ _ _ _)
   | (with_reducible exact gronx_zzIndex.mono _ _ _)
   | (with_reducible exact LeO.refl _)
   | (with_reducible exact LeO.none _)
   | (with_reducible refine LeO.ite ?_ ?_)
   | (with_reducible refine LeO.bind ?_ (fun _ => ?_))
   | exact ih0 _ _ _ _
   | exact gronx_zzIndex.mono _ _ _
   | exact LeO.none _
   | refine LeO.ite ?_ ?_
   | refine LeO.bind ?_ (fun _ => ?_)
theorem gronx_zzReplaceAll.mono : ∀ a0 a1 a2 k, LeO (gronx_zzReplaceAll.f k a0 a1 a2) (gronx_zzReplaceAll.f (k + 1) a0 a1 a2) := by
 intro a0 a1 a2 k
 have ih0 := gronx_zzReplaceAll.mono_l k
 unfold gronx_zzReplaceAll.f
 repeat' first
   | (with_reducible exact ih0 _ _ _ _)
   | (with_reducible exact gronx_zzIndex.mono _ _ _)
   | (with_reducible exact LeO.refl _)
   | (with_reducible exact LeO.none _)
   | (with_reducible refine LeO.ite ?_ ?_)
   | (with_reducible refine LeO.bind ?_ (fun _ => ?_))
   | exact ih0 _ _ _ _
   | exact gronx_zzIndex.mono _ _ _
   | exact LeO.none _
   | refine LeO.ite ?_ ?_
   | refine LeO.bind ?_ (fun _ => ?_)
set_option maxHeartbeats 8000000 in
set_option maxRecDepth 100000 in
theorem gronx_zzReplaceAll.calls (k : Nat) (a0 : ByteArray) (a1 : ByteArray) (a2 : ByteArray) (r : ByteArray) (w : World) (h : gronx_zzReplaceAll.f k a0 a1 a2 = some r) :
  Calls Tryz.prog 63 #[.string a0, .string a1, .string a2] w fun e w' => e = .returned (.string r) ∧ Below w.heap.size w w' := by
 have HB := Aside0.mk (Below.refl w.heap.size w)
 have H : (gronx_zzReplaceAll.l0 k a0 a1 a2 ([] : List Int)) = some r := h
 clear h
 have H' := Aside0.mk H
 clear H
 go_enter Tryz.func63, Tryz.ntmps63
 go_wp2
 go_loopg [0, 7] k (fun kq v0 v7 w' => ∃ (x0_1 : ByteArray) (x7_1 : List Int), v0 = .string x0_1 ∧ Aside0 (gronx_zzReplaceAll.l0 kq x0_1 a1 a2 x7_1 = some r) ∧ Aside0 (kq ≤ k) ∧ Aside0 (Kd.R (Kd.int .u8) 5 w' w.heap.size (fun _ => True) v7 x7_1) ∧ Aside0 (Below w.heap.size w w'))
 case atStart => exact ⟨(a0), (([] : List Int)), (by first | rfl | (simp; done) | (simp [*]; done)), H', ⟨Nat.le_refl _⟩, ⟨by first | exact Kd.R_nil _ _ _ _ _ | exact Kd.N_nil _ _ _ _ _ | exact Kd.V_nil _ _ _ _ _ | exact Kd.Q_nil _ _ _ _ _ | exact Kd.S_nil _ _ _ _ _⟩, ⟨by repeat (first | (with_reducible first | exact HB.out | apply below_alloc | apply pw_below_drewN | apply below_drew1) | exact HB.out)⟩⟩
 case round =>
  clear H'
  obtain ⟨x0_1, x7_1, rfl, HA, HK1, HO_7, HB⟩ := hrel
  cases gk with
  | zero => exact absurd HA.out (by simp [gronx_zzReplaceAll.l0])
  | succ k1 =>
   have H := HA.out
   clear HA
   simp only [gronx_zzReplaceAll.l0] at H
   replace H := Option.bind_eq_some_iff.mp H
   obtain ⟨t346, A40, H⟩ := H
   replace H : (if t346 < 0 then (if x7_1.length + x0_1.size < 140737488355328 then (some (strOfNums (x7_1 ++ bytesOf x0_1))) else (none)) else (if 0 ≤ t346 then (if t346 ≤ (x0_1.size : Int) then (if x7_1.length + (x0_1.extract 0 (t346 : Int).toNat).size < 140737488355328 then ((some (x7_1 ++ bytesOf (x0_1.extract 0 (t346 : Int).toNat) : List Int)).bind fun y350 => (if y350.length + a2.size < 140737488355328 then (if 0 ≤ (wrap64 (t346 + (a1.size : Int))) then (if (wrap64 (t346 + (a1.size : Int))) ≤ (x0_1.size : Int) then (gronx_zzReplaceAll.l0 k1 (x0_1.extract ((wrap64 (t346 + (a1.size : Int))) : Int).toNat x0_1.size) a1 a2 (y350 ++ bytesOf a2)) else (none)) else (none)) else (none))) else (none)) else (none)) else (none))) = some r := H
   have A4 := Aside0.mk A40
   clear A40
   by_cases c5 : t346 < 0
   ·rw [if_pos c5] at H
    have c5b0 : decide (t346 < 0) = true := decide_eq_true c5
    clear c5
    by_cases c6 : x7_1.length + x0_1.size < 140737488355328
    ·rw [if_pos c6] at H
     have LMc6 := Aside0.mk c6
     clear c6
     obtain ⟨y347, hy347⟩ : ∃ y_ : List Int, y_ = (x7_1 ++ bytesOf x0_1) := ⟨_, rfl⟩
     replace H : (some (strOfNums y347)) = some r := by first | (rw [hy347]; with_reducible exact H) | (have H2_ := (Option.bind_some _ _).symm.trans H; rw [hy347]; with_reducible exact H2_) | (have H2_ := (Option.bind_some _ _).symm.trans H; with_reducible exact H2_) | with_reducible exact H | (rw [hy347]; exact H) | exact H
     have Ny347 := Aside0.mk hy347
     clear hy347
     obtain rfl := Option.some.inj H
     go_wp2_with (first | ((with_reducible refine gate_callee (f := 50) rfl ?_); refine goesL_ (some 11) rfl rfl Tryz.func50 (by kernel_rfl) rfl #[.string x0_1, .string a1] rfl (by (try simp only [List.map_toArray, List.map_cons, List.map_nil]); first | done | rfl | (simp only [List.length_drop, List.length_take]; rfl)) ?_; (with_reducible refine (gronx_zzIndex.calls k1 x0_1 a1 t346 _ A4.out).mono ?_); rintro e w' ⟨rfl, ⟨nd, rfl⟩⟩; refine ⟨_, rfl, ?_⟩) | (at_builtin; refine print_append_str (w0 := w) w.heap.size rfl (.tmp 14) _ 137 9 5 rfl Tryz.underlying137 Tryz.underlying9 info5 u7 x7_1 x0_1 rfl rfl ?aO ?aB ?aS ?aL ?_; (case aB => exact (by repeat (first | (with_reducible first | exact HB.out | apply below_alloc | apply pw_below_drewN | apply below_drew1) | exact HB.out))); (case aO => exact (Kd.own_of_R (by (with_reducible repeat (first | apply Kd.R_alloc | apply Kd.R_drewN | apply Kd.R_drew)); exact HO_7.out))); (case aS => exact (below_size (by repeat (first | (with_reducible first | exact HB.out | apply below_alloc | apply pw_below_drewN | apply below_drew1) | exact HB.out)))); (case aL => have := LMc6.out; omega); intro v348 w7 ho0 hb hg; have ho := Kd.R_of_own (h1 := fun _ => rfl) (ok := fun _ => True) ho0 (fun _ _ => trivial); clear ho0; have hat := True.intro; rw [← Ny347.out] at ho; change Kd.R (Kd.int .u8) 5 w7 w.heap.size (fun _ => True) v348 y347 at ho; have n0_ := Aside0.mk (hb); have n1_ := Aside0.mk (ho); clear HB; clear HO_7; have HB := n0_; have HO349 := n1_; clear n0_ n1_; clear ho hb hg hat; have hcv8 := own_string (P := Tryz.prog) Tryz.underlying137 Tryz.underlying5 Tryz.underlying9 (Kd.own_of_R HO349.out)))
     go_ret
     exact ⟨by first | rfl | (simp [errW_none, errW_some] <;> rfl) | (simp [*, errW_none, errW_some] <;> rfl), by repeat (first | (with_reducible first | exact HB.out | apply below_alloc | apply pw_below_drewN | apply below_drew1) | exact HB.out)⟩
    ·rw [if_neg c6] at H
     exact absurd H (by simp)
   ·rw [if_neg c5] at H
    have c5b0 : decide (t346 < 0) = false := decide_eq_false c5
    clear c5
    by_cases c9 : 0 ≤ t346
    ·rw [if_pos c9] at H
     have c9b0 := eq_true c9
     have c9b1 : decide (0 ≤ t346) = true := decide_eq_true c9
     clear c9
     by_cases c10 : t346 ≤ (x0_1.size : Int)
     ·rw [if_pos c10] at H
      have c10b0 := eq_true c10
      have c10b1 : decide (t346 ≤ (x0_1.size : Int)) = true := decide_eq_true c10
      clear c10
      by_cases c11 : x7_1.length + (x0_1.extract 0 (t346 : Int).toNat).size < 140737488355328
      ·rw [if_pos c11] at H
       have LMc11 := Aside0.mk c11
       clear c11
       obtain ⟨y350, hy350⟩ : ∃ y_ : List Int, y_ = (x7_1 ++ bytesOf (x0_1.extract 0 (t346 : Int).toNat)) := ⟨_, rfl⟩
       replace H : (if y350.length + a2.size < 140737488355328 then (if 0 ≤ (wrap64 (t346 + (a1.size : Int))) then (if (wrap64 (t346 + (a1.size : Int))) ≤ (x0_1.size : Int) then (gronx_zzReplaceAll.l0 k1 (x0_1.extract ((wrap64 (t346 + (a1.size : Int))) : Int).toNat x0_1.size) a1 a2 (y350 ++ bytesOf a2)) else (none)) else (none)) else (none)) = some r := by first | (rw [hy350]; with_reducible exact H) | (have H2_ := (Option.bind_some _ _).symm.trans H; rw [hy350]; with_reducible exact H2_) | (have H2_ := (Option.bind_some _ _).symm.trans H; with_reducible exact H2_) | with_reducible exact H | (rw [hy350]; exact H) | exact H
       have Ny350 := Aside0.mk hy350
       clear hy350
       by_cases c12 : y350.length + a2.size < 140737488355328
       ·rw [if_pos c12] at H
        have LMc12 := Aside0.mk c12
        clear c12
        obtain ⟨y353, hy353⟩ : ∃ y_ : List Int, y_ = (y350 ++ bytesOf a2) := ⟨_, rfl⟩
        replace H : (if 0 ≤ (wrap64 (t346 + (a1.size : Int))) then (if (wrap64 (t346 + (a1.size : Int))) ≤ (x0_1.size : Int) then (gronx_zzReplaceAll.l0 k1 (x0_1.extract ((wrap64 (t346 + (a1.size : Int))) : Int).toNat x0_1.size) a1 a2 y353) else (none)) else (none)) = some r := by first | (rw [hy353]; with_reducible exact H) | (have H2_ := (Option.bind_some _ _).symm.trans H; rw [hy353]; with_reducible exact H2_) | (have H2_ := (Option.bind_some _ _).symm.trans H; with_reducible exact H2_) | with_reducible exact H | (rw [hy353]; exact H) | exact H
        have Ny353 := Aside0.mk hy353
        clear hy353
        obtain ⟨ji13, hji13⟩ : ∃ j_ : Int, (wrap64 (t346 + (a1.size : Int))) = j_ := ⟨_, rfl⟩
        replace H : (if 0 ≤ (ji13) then (if (ji13) ≤ (x0_1.size : Int) then (gronx_zzReplaceAll.l0 k1 (x0_1.extract ((ji13) : Int).toNat x0_1.size) a1 a2 y353) else (none)) else (none)) = some r := by first | (rw [hji13] at H; exact H) | (simp only [hji13] at H ⊢; exact H)
        (try rw [hji13] at A4)
        have hji13w : (IntKind.i64.wrap (t346 + (a1.size : Int))) = ji13 := (i64_w _).trans hji13
        by_cases c14 : 0 ≤ (ji13)
        ·rw [if_pos c14] at H
         have c14b0 := eq_true c14
         have c14b1 : decide (0 ≤ (ji13)) = true := decide_eq_true c14
         clear c14
         by_cases c15 : (ji13) ≤ (x0_1.size : Int)
         ·rw [if_pos c15] at H
          have c15b0 := eq_true c15
          have c15b1 : decide ((ji13) ≤ (x0_1.size : Int)) = true := decide_eq_true c15
          clear c15
          have H' := Aside0.mk H
          clear H
          go_wp2_with (first | ((with_reducible refine gate_callee (f := 50) rfl ?_); refine goesL_ (some 11) rfl rfl Tryz.func50 (by kernel_rfl) rfl #[.string x0_1, .string a1] rfl (by (try simp only [List.map_toArray, List.map_cons, List.map_nil]); first | done | rfl | (simp only [List.length_drop, List.length_take]; rfl)) ?_; (with_reducible refine (gronx_zzIndex.calls k1 x0_1 a1 t346 _ A4.out).mono ?_); rintro e w' ⟨rfl, ⟨nd, rfl⟩⟩; refine ⟨_, rfl, ?_⟩) | (at_builtin; refine print_append_str (w0 := w) w.heap.size rfl (.tmp 18) _ 137 9 5 rfl Tryz.underlying137 Tryz.underlying9 info5 u7 x7_1 (x0_1.extract 0 (t346 : Int).toNat) rfl rfl ?aO ?aB ?aS ?aL ?_; (case aB => exact (by repeat (first | (with_reducible first | exact HB.out | apply below_alloc | apply pw_below_drewN | apply below_drew1) | exact HB.out))); (case aO => exact (Kd.own_of_R (by (with_reducible repeat (first | apply Kd.R_alloc | apply Kd.R_drewN | apply Kd.R_drew)); exact HO_7.out))); (case aS => exact (below_size (by repeat (first | (with_reducible first | exact HB.out | apply below_alloc | apply pw_below_drewN | apply below_drew1) | exact HB.out)))); (case aL => have := LMc11.out; omega); intro v351 w16 ho0 hb hg; have ho := Kd.R_of_own (h1 := fun _ => rfl) (ok := fun _ => True) ho0 (fun _ _ => trivial); clear ho0; have hat := True.intro; rw [← Ny350.out] at ho; change Kd.R (Kd.int .u8) 5 w16 w.heap.size (fun _ => True) v351 y350 at ho; have n0_ := Aside0.mk (hb); have n1_ := Aside0.mk (ho); clear HB; clear HO_7; have HB := n0_; have HO352 := n1_; clear n0_ n1_; clear ho hb hg hat) | (at_builtin; refine print_append_str (w0 := w) w.heap.size rfl (.tmp 22) _ 137 9 5 rfl Tryz.underlying137 Tryz.underlying9 info5 v351 y350 a2 rfl rfl ?aO ?aB ?aS ?aL ?_; (case aB => exact (by repeat (first | (with_reducible first | exact HB.out | apply below_alloc | apply pw_below_drewN | apply below_drew1) | exact HB.out))); (case aO => exact (Kd.own_of_R (by (with_reducible repeat (first | apply Kd.R_alloc | apply Kd.R_drewN | apply Kd.R_drew)); exact HO352.out))); (case aS => exact (below_size (by repeat (first | (with_reducible first | exact HB.out | apply below_alloc | apply pw_below_drewN | apply below_drew1) | exact HB.out)))); (case aL => have := LMc12.out; omega); intro v354 w17 ho0 hb hg; have ho := Kd.R_of_own (h1 := fun _ => rfl) (ok := fun _ => True) ho0 (fun _ _ => trivial); clear ho0; have hat := True.intro; rw [← Ny353.out] at ho; change Kd.R (Kd.int .u8) 5 w17 w.heap.size (fun _ => True) v354 y353 at ho; have n0_ := Aside0.mk (hb); have n1_ := Aside0.mk (ho); clear HB; clear HO352; have HB := n0_; have HO355 := n1_; clear n0_ n1_; clear ho hb hg hat))
          go_roundg k1
          case measure => have := HK1.out; omega
          case rel => exact ⟨(x0_1.extract ((ji13) : Int).toNat x0_1.size), (y353), (by first | rfl | (simp; done) | (simp only [← hji13] <;> (first | rfl | simp)) | (simp [*]; done)), H', ⟨by have := HK1.out; omega⟩, ⟨by (with_reducible repeat (first | apply Kd.R_alloc | apply Kd.R_drewN | apply Kd.R_drew)); exact HO355.out⟩, ⟨by repeat (first | (with_reducible first | exact HB.out | apply below_alloc | apply pw_below_drewN | apply below_drew1) | exact HB.out)⟩⟩
         ·rw [if_neg c15] at H
          exact absurd H (by simp)
        ·rw [if_neg c14] at H
         exact absurd H (by simp)
       ·rw [if_neg c12] at H
        exact absurd H (by simp)
      ·rw [if_neg c11] at H
       exact absurd H (by simp)
     ·rw [if_neg c10] at H
      exact absurd H (by simp)
    ·rw [if_neg c9] at H
     exact absurd H (by simp)
end Go.Proofs.YtemgofomhjabpaaGreatDoor.Core
namespace Go.Proofs
open Go.Shelf
def Tryz.lays158_ren : Go.Shelf.Ren := ⟨fun | 158 => 61 | 165 => 64 | 166 => 65 | 167 => 70 | 169 => 66 | 230 => 71 | 203 => 74 | 240 => 75 | 241 => 76 | 197 => 79 | 118 => 80 | 168 => 81 | 270 => 82 | 262 => 83 | 276 => 84 | 277 => 85 | 260 => 86 | 242 => 87 | 313 => 88 | 278 => 89 | 274 => 90 | 275 => 91 | n => n, fun | 9 => 9 | 4 => 4 | 3 => 3 | 5 => 5 | 72 => 139 | 0 => 0 | 76 => 141 | 75 => 71 | 107 => 154 | 70 => 136 | 20 => 20 | 37 => 137 | 127 => 155 | 21 => 21 | 105 => 158 | 164 => 163 | 162 => 169 | 203 => 167 | 119 => 170 | 46 => 145 | 139 => 173 | 138 => 172 | 51 => 144 | 160 => 174 | 208 => 180 | 206 => 178 | 80 => 143 | n => n, fun | 13 => 0 | 3 => 2 | 4 => 3 | n => n⟩
theorem Tryz.lays158 : Go.Proofs.Lays.n158 Tryz.prog Tryz.lays158_ren := {
 mixed := by kernel_rfl
 f118 := Tryz.func80.trans (congrArg some (by kernel_rfl))
 f158 := Tryz.func61.trans (congrArg some (by kernel_rfl))
 f165 := Tryz.func64.trans (congrArg some (by kernel_rfl))
 f166 := Tryz.func65.trans (congrArg some (by kernel_rfl))
 f167 := Tryz.func70.trans (congrArg some (by kernel_rfl))
 f168 := Tryz.func81.trans (congrArg some (by kernel_rfl))
 f169 := Tryz.func66.trans (congrArg some (by kernel_rfl))
 f197 := Tryz.func79.trans (congrArg some (by kernel_rfl))
 f203 := Tryz.func74.trans (congrArg some (by kernel_rfl))
 f230 := Tryz.func71.trans (congrArg some (by kernel_rfl))
 f240 := Tryz.func75.trans (congrArg some (by kernel_rfl))
 f241 := Tryz.func76.trans (congrArg some (by kernel_rfl))
 f242 := Tryz.func87.trans (congrArg some (by kernel_rfl))
 f260 := Tryz.func86.trans (congrArg some (by kernel_rfl))
 f262 := Tryz.func83.trans (congrArg some (by kernel_rfl))
 f270 := Tryz.func82.trans (congrArg some (by kernel_rfl))
 f274 := Tryz.func90.trans (congrArg some (by kernel_rfl))
 f275 := Tryz.func91.trans (congrArg some (by kernel_rfl))
 f276 := Tryz.func84.trans (congrArg some (by kernel_rfl))
 f277 := Tryz.func85.trans (congrArg some (by kernel_rfl))
 f278 := Tryz.func89.trans (congrArg some (by kernel_rfl))
 f313 := Tryz.func88.trans (congrArg some (by kernel_rfl))
 t0 := Tryz.underlying0
 a0 := Tryz.isAgg0
 z0 := Tryz.sizeOf0
 v0 := Tryz.zeroValue0
 t3 := Tryz.underlying3
 a3 := Tryz.isAgg3
 z3 := Tryz.sizeOf3
 v3 := Tryz.zeroValue3
 t4 := Tryz.underlying4
 a4 := Tryz.isAgg4
 z4 := Tryz.sizeOf4
 v4 := Tryz.zeroValue4
 t5 := Tryz.underlying5
 a5 := Tryz.isAgg5
 z5 := Tryz.sizeOf5
 v5 := Tryz.zeroValue5
 t9 := Tryz.underlying9
 a9 := Tryz.isAgg9
 z9 := Tryz.sizeOf9
 v9 := Tryz.zeroValue9
 t20 := Tryz.underlying20
 a20 := Tryz.isAgg20
 z20 := Tryz.sizeOf20
 v20 := Tryz.zeroValue20
 t21 := Tryz.underlying21
 a21 := Tryz.isAgg21
 z21 := Tryz.sizeOf21
 v21 := Tryz.zeroValue21
 t37 := Tryz.underlying137
 a37 := Tryz.isAgg137
 z37 := Tryz.sizeOf137
 v37 := Tryz.zeroValue137
 t46 := Tryz.underlying145
 a46 := Tryz.isAgg145
 z46 := Tryz.sizeOf145
 v46 := Tryz.zeroValue145
 t51 := Tryz.underlying144
 a51 := Tryz.isAgg144
 z51 := Tryz.sizeOf144
 v51 := Tryz.zeroValue144
 t70 := Tryz.underlying136
 a70 := Tryz.isAgg136
 z70 := Tryz.sizeOf136
 v70 := Tryz.zeroValue136
 t72 := Tryz.underlying139
 a72 := Tryz.isAgg139
 z72 := Tryz.sizeOf139
 v72 := Tryz.zeroValue139
 t75 := Tryz.underlying71
 a75 := Tryz.isAgg71
 z75 := Tryz.sizeOf71
 v75 := Tryz.zeroValue71
 t76 := Tryz.underlying141
 a76 := Tryz.isAgg141
 z76 := Tryz.sizeOf141
 v76 := Tryz.zeroValue141
 t105 := Tryz.underlying158
 a105 := Tryz.isAgg158
 z105 := Tryz.sizeOf158
 v105 := Tryz.zeroValue158
 t107 := Tryz.underlying154
 a107 := Tryz.isAgg154
 z107 := Tryz.sizeOf154
 v107 := Tryz.zeroValue154
 t119 := Tryz.underlying170
 a119 := Tryz.isAgg170
 z119 := Tryz.sizeOf170
 t127 := Tryz.underlying155
 a127 := Tryz.isAgg155
 z127 := Tryz.sizeOf155
 v127 := Tryz.zeroValue155
 t138 := Tryz.underlying172
 a138 := Tryz.isAgg172
 z138 := Tryz.sizeOf172
 v138 := Tryz.zeroValue172
 t139 := Tryz.underlying173
 a139 := Tryz.isAgg173
 z139 := Tryz.sizeOf173
 v139 := Tryz.zeroValue173
 t160 := Tryz.underlying174
 a160 := Tryz.isAgg174
 z160 := Tryz.sizeOf174
 v160 := Tryz.zeroValue174
 t162 := Tryz.underlying169
 a162 := Tryz.isAgg169
 z162 := Tryz.sizeOf169
 v162 := Tryz.zeroValue169
 t164 := Tryz.underlying163
 a164 := Tryz.isAgg163
 z164 := Tryz.sizeOf163
 v164 := Tryz.zeroValue163
 t203 := Tryz.underlying167
 a203 := Tryz.isAgg167
 z203 := Tryz.sizeOf167
 v203 := Tryz.zeroValue167
 t206 := Tryz.underlying178
 a206 := Tryz.isAgg178
 z206 := Tryz.sizeOf178
 v206 := Tryz.zeroValue178
 t208 := Tryz.underlying180
 a208 := Tryz.isAgg180
 z208 := Tryz.sizeOf180
 v208 := Tryz.zeroValue180
 g3 := by kernel_rfl
 g4 := by kernel_rfl
 g13 := by kernel_rfl }
theorem Tryz.Builder_Extra_158 : Builder.Extra Tryz.prog Tryz.lays158_ren := {
 sizeBuilder := by kernel_rfl
 liesBuilder := by kernel_rfl
 t5 := Tryz.underlying5
 a5 := Tryz.isAgg5
 z5 := Tryz.sizeOf5
 v5 := Tryz.zeroValue5
 infoByte := by kernel_rfl
 cellsByte := by kernel_rfl
 sizeByte := by kernel_rfl
 neB5 := by decide }
open Go.RowKit in
theorem Tryz.strings_ToUpper_ascii (s : ByteArray) (w : World) (hs : s.size ≤ 140737488355328) (hascii : ∀ (j : Nat) (b : UInt8), s.data.toList[j]? = some b → b.toNat < 128) :
  Calls Tryz.prog 61 #[.string s] w fun e w' => e = .returned (.string ⟨(Lib.toUpperA s.data.toList).toArray⟩) ∧ Below w.heap.size w w' := Any.strings_ToUpper_ascii Tryz.lays158 Tryz.Builder_Extra_158 s w hs hascii
def Tryz.lays159_ren : Go.Shelf.Ren := ⟨fun | 159 => 58 | 165 => 64 | 166 => 65 | 167 => 70 | 169 => 66 | 230 => 71 | 204 => 72 | 240 => 75 | 241 => 76 | 197 => 79 | 118 => 80 | 168 => 81 | 270 => 82 | 262 => 83 | 276 => 84 | 277 => 85 | 260 => 86 | 242 => 87 | 313 => 88 | 278 => 89 | 274 => 90 | 275 => 91 | n => n, fun | 9 => 9 | 4 => 4 | 3 => 3 | 5 => 5 | 72 => 139 | 0 => 0 | 76 => 141 | 75 => 71 | 107 => 154 | 70 => 136 | 20 => 20 | 37 => 137 | 127 => 155 | 21 => 21 | 105 => 158 | 164 => 163 | 162 => 169 | 203 => 167 | 119 => 170 | 46 => 145 | 139 => 173 | 138 => 172 | 51 => 144 | 160 => 174 | 208 => 180 | 206 => 178 | 80 => 143 | n => n, fun | 13 => 0 | 3 => 2 | 4 => 3 | n => n⟩
theorem Tryz.lays159 : Go.Proofs.Lays.n159 Tryz.prog Tryz.lays159_ren := {
 mixed := by kernel_rfl
 f118 := Tryz.func80.trans (congrArg some (by kernel_rfl))
 f159 := Tryz.func58.trans (congrArg some (by kernel_rfl))
 f165 := Tryz.func64.trans (congrArg some (by kernel_rfl))
 f166 := Tryz.func65.trans (congrArg some (by kernel_rfl))
 f167 := Tryz.func70.trans (congrArg some (by kernel_rfl))
 f168 := Tryz.func81.trans (congrArg some (by kernel_rfl))
 f169 := Tryz.func66.trans (congrArg some (by kernel_rfl))
 f197 := Tryz.func79.trans (congrArg some (by kernel_rfl))
 f204 := Tryz.func72.trans (congrArg some (by kernel_rfl))
 f230 := Tryz.func71.trans (congrArg some (by kernel_rfl))
 f240 := Tryz.func75.trans (congrArg some (by kernel_rfl))
 f241 := Tryz.func76.trans (congrArg some (by kernel_rfl))
 f242 := Tryz.func87.trans (congrArg some (by kernel_rfl))
 f260 := Tryz.func86.trans (congrArg some (by kernel_rfl))
 f262 := Tryz.func83.trans (congrArg some (by kernel_rfl))
 f270 := Tryz.func82.trans (congrArg some (by kernel_rfl))
 f274 := Tryz.func90.trans (congrArg some (by kernel_rfl))
 f275 := Tryz.func91.trans (congrArg some (by kernel_rfl))
 f276 := Tryz.func84.trans (congrArg some (by kernel_rfl))
 f277 := Tryz.func85.trans (congrArg some (by kernel_rfl))
 f278 := Tryz.func89.trans (congrArg some (by kernel_rfl))
 f313 := Tryz.func88.trans (congrArg some (by kernel_rfl))
 t0 := Tryz.underlying0
 a0 := Tryz.isAgg0
 z0 := Tryz.sizeOf0
 v0 := Tryz.zeroValue0
 t3 := Tryz.underlying3
 a3 := Tryz.isAgg3
 z3 := Tryz.sizeOf3
 v3 := Tryz.zeroValue3
 t4 := Tryz.underlying4
 a4 := Tryz.isAgg4
 z4 := Tryz.sizeOf4
 v4 := Tryz.zeroValue4
 t5 := Tryz.underlying5
 a5 := Tryz.isAgg5
 z5 := Tryz.sizeOf5
 v5 := Tryz.zeroValue5
 t9 := Tryz.underlying9
 a9 := Tryz.isAgg9
 z9 := Tryz.sizeOf9
 v9 := Tryz.zeroValue9
 t20 := Tryz.underlying20
 a20 := Tryz.isAgg20
 z20 := Tryz.sizeOf20
 v20 := Tryz.zeroValue20
 t21 := Tryz.underlying21
 a21 := Tryz.isAgg21
 z21 := Tryz.sizeOf21
 v21 := Tryz.zeroValue21
 t37 := Tryz.underlying137
 a37 := Tryz.isAgg137
 z37 := Tryz.sizeOf137
 v37 := Tryz.zeroValue137
 t46 := Tryz.underlying145
 a46 := Tryz.isAgg145
 z46 := Tryz.sizeOf145
 v46 := Tryz.zeroValue145
 t51 := Tryz.underlying144
 a51 := Tryz.isAgg144
 z51 := Tryz.sizeOf144
 v51 := Tryz.zeroValue144
 t70 := Tryz.underlying136
 a70 := Tryz.isAgg136
 z70 := Tryz.sizeOf136
 v70 := Tryz.zeroValue136
 t72 := Tryz.underlying139
 a72 := Tryz.isAgg139
 z72 := Tryz.sizeOf139
 v72 := Tryz.zeroValue139
 t75 := Tryz.underlying71
 a75 := Tryz.isAgg71
 z75 := Tryz.sizeOf71
 v75 := Tryz.zeroValue71
 t76 := Tryz.underlying141
 a76 := Tryz.isAgg141
 z76 := Tryz.sizeOf141
 v76 := Tryz.zeroValue141
 t105 := Tryz.underlying158
 a105 := Tryz.isAgg158
 z105 := Tryz.sizeOf158
 v105 := Tryz.zeroValue158
 t107 := Tryz.underlying154
 a107 := Tryz.isAgg154
 z107 := Tryz.sizeOf154
 v107 := Tryz.zeroValue154
 t119 := Tryz.underlying170
 a119 := Tryz.isAgg170
 z119 := Tryz.sizeOf170
 t127 := Tryz.underlying155
 a127 := Tryz.isAgg155
 z127 := Tryz.sizeOf155
 v127 := Tryz.zeroValue155
 t138 := Tryz.underlying172
 a138 := Tryz.isAgg172
 z138 := Tryz.sizeOf172
 v138 := Tryz.zeroValue172
 t139 := Tryz.underlying173
 a139 := Tryz.isAgg173
 z139 := Tryz.sizeOf173
 v139 := Tryz.zeroValue173
 t160 := Tryz.underlying174
 a160 := Tryz.isAgg174
 z160 := Tryz.sizeOf174
 v160 := Tryz.zeroValue174
 t162 := Tryz.underlying169
 a162 := Tryz.isAgg169
 z162 := Tryz.sizeOf169
 v162 := Tryz.zeroValue169
 t164 := Tryz.underlying163
 a164 := Tryz.isAgg163
 z164 := Tryz.sizeOf163
 v164 := Tryz.zeroValue163
 t203 := Tryz.underlying167
 a203 := Tryz.isAgg167
 z203 := Tryz.sizeOf167
 v203 := Tryz.zeroValue167
 t206 := Tryz.underlying178
 a206 := Tryz.isAgg178
 z206 := Tryz.sizeOf178
 v206 := Tryz.zeroValue178
 t208 := Tryz.underlying180
 a208 := Tryz.isAgg180
 z208 := Tryz.sizeOf180
 v208 := Tryz.zeroValue180
 g3 := by kernel_rfl
 g4 := by kernel_rfl
 g13 := by kernel_rfl }
theorem Tryz.Builder_Extra_159 : Builder.Extra Tryz.prog Tryz.lays159_ren := {
 sizeBuilder := by kernel_rfl
 liesBuilder := by kernel_rfl
 t5 := Tryz.underlying5
 a5 := Tryz.isAgg5
 z5 := Tryz.sizeOf5
 v5 := Tryz.zeroValue5
 infoByte := by kernel_rfl
 cellsByte := by kernel_rfl
 sizeByte := by kernel_rfl
 neB5 := by decide }
open Go.RowKit in
theorem Tryz.strings_ToLower_ascii (s : ByteArray) (w : World) (hs : s.size ≤ 140737488355328) (hascii : ∀ (j : Nat) (b : UInt8), s.data.toList[j]? = some b → b.toNat < 128) :
  Calls Tryz.prog 58 #[.string s] w fun e w' => e = .returned (.string ⟨(Lib.toLowerA s.data.toList).toArray⟩) ∧ Below w.heap.size w w' := Any.strings_ToLower_ascii Tryz.lays159 Tryz.Builder_Extra_159 s w hs hascii
def Tryz.lays156_ren : Go.Shelf.Ren := ⟨fun | 156 => 49 | 165 => 64 | 166 => 65 | 169 => 66 | 240 => 75 | 241 => 76 | 276 => 84 | 277 => 85 | n => n, fun | 31 => 55 | 9 => 9 | 3 => 3 | 4 => 4 | 0 => 0 | 20 => 20 | 72 => 139 | 76 => 141 | 70 => 136 | 37 => 137 | 75 => 71 | 127 => 155 | 164 => 163 | 5 => 5 | 80 => 143 | n => n, fun | n => n⟩
theorem Tryz.lays156 : Go.Proofs.Lays.n156 Tryz.prog Tryz.lays156_ren := {
 mixed := by kernel_rfl
 f156 := Tryz.func49.trans (congrArg some (by kernel_rfl))
 f165 := Tryz.func64.trans (congrArg some (by kernel_rfl))
 f166 := Tryz.func65.trans (congrArg some (by kernel_rfl))
 f169 := Tryz.func66.trans (congrArg some (by kernel_rfl))
 f240 := Tryz.func75.trans (congrArg some (by kernel_rfl))
 f241 := Tryz.func76.trans (congrArg some (by kernel_rfl))
 f276 := Tryz.func84.trans (congrArg some (by kernel_rfl))
 f277 := Tryz.func85.trans (congrArg some (by kernel_rfl))
 t0 := Tryz.underlying0
 a0 := Tryz.isAgg0
 z0 := Tryz.sizeOf0
 v0 := Tryz.zeroValue0
 t3 := Tryz.underlying3
 a3 := Tryz.isAgg3
 z3 := Tryz.sizeOf3
 v3 := Tryz.zeroValue3
 t4 := Tryz.underlying4
 a4 := Tryz.isAgg4
 z4 := Tryz.sizeOf4
 v4 := Tryz.zeroValue4
 t9 := Tryz.underlying9
 a9 := Tryz.isAgg9
 z9 := Tryz.sizeOf9
 v9 := Tryz.zeroValue9
 t20 := Tryz.underlying20
 a20 := Tryz.isAgg20
 z20 := Tryz.sizeOf20
 v20 := Tryz.zeroValue20
 t31 := Tryz.underlying55
 a31 := Tryz.isAgg55
 z31 := Tryz.sizeOf55
 v31 := Tryz.zeroValue55
 t37 := Tryz.underlying137
 a37 := Tryz.isAgg137
 z37 := Tryz.sizeOf137
 v37 := Tryz.zeroValue137
 t70 := Tryz.underlying136
 a70 := Tryz.isAgg136
 z70 := Tryz.sizeOf136
 v70 := Tryz.zeroValue136
 t72 := Tryz.underlying139
 a72 := Tryz.isAgg139
 z72 := Tryz.sizeOf139
 v72 := Tryz.zeroValue139
 t75 := Tryz.underlying71
 a75 := Tryz.isAgg71
 z75 := Tryz.sizeOf71
 v75 := Tryz.zeroValue71
 t76 := Tryz.underlying141
 a76 := Tryz.isAgg141
 z76 := Tryz.sizeOf141
 v76 := Tryz.zeroValue141
 t127 := Tryz.underlying155
 a127 := Tryz.isAgg155
 z127 := Tryz.sizeOf155
 v127 := Tryz.zeroValue155
 t164 := Tryz.underlying163
 a164 := Tryz.isAgg163
 z164 := Tryz.sizeOf163
 v164 := Tryz.zeroValue163 }
theorem Tryz.Builder_Extra_156 : Builder.Extra Tryz.prog Tryz.lays156_ren := {
 sizeBuilder := by kernel_rfl
 liesBuilder := by kernel_rfl
 t5 := Tryz.underlying5
 a5 := Tryz.isAgg5
 z5 := Tryz.sizeOf5
 v5 := Tryz.zeroValue5
 infoByte := by kernel_rfl
 cellsByte := by kernel_rfl
 sizeByte := by kernel_rfl
 neB5 := by decide }
open Go.RowKit in
theorem Tryz.strings_Join (bk o c : Nat) (xs : List ByteArray) (sep : ByteArray) (w : World) (hcells : ∀ (j : Nat) x, xs[j]? = some x → w.cell? ⟨bk, o + j, none⟩ = some (.string x)) (hbk : bk < w.heap.size) (hN : xs.length ≤ 140737488355328) (hcap : xs.length ≤ c) (hlen : (Lib.join (xs.map (·.data.toList)) sep.data.toList).length ≤ 140737488355328) :
  Calls Tryz.prog 49 #[.slice (some ⟨bk, o, none⟩) xs.length c, .string sep] w fun e w' => e = .returned (.string ⟨(Lib.join (xs.map (·.data.toList)) sep.data.toList).toArray⟩) ∧ Below w.heap.size w w' := Any.strings_Join Tryz.lays156 Tryz.Builder_Extra_156 bk o c xs sep w hcells hbk hN hcap hlen
def Tryz.lays172_ren : Go.Shelf.Ren := ⟨fun | 172 => 136 | 244 => 148 | 245 => 149 | 247 => 152 | 279 => 153 | 280 => 154 | 281 => 155 | 282 => 156 | 287 => 157 | 316 => 158 | 171 => 159 | 205 => 47 | 321 => 160 | 322 => 161 | 243 => 162 | 246 => 163 | 283 => 164 | 284 => 165 | 285 => 166 | 286 => 167 | 129 => 169 | 317 => 168 | 318 => 170 | 319 => 171 | 320 => 172 | 337 => 173 | 338 => 174 | n => n, fun | 9 => 9 | 3 => 3 | 75 => 71 | 76 => 141 | 4 => 4 | 5 => 5 | 167 => 233 | 37 => 137 | 0 => 0 | 85 => 234 | 2 => 2 | 168 => 236 | 53 => 76 | 175 => 239 | 46 => 145 | 210 => 242 | 127 => 155 | 145 => 135 | 143 => 133 | 21 => 21 | 171 => 245 | 173 => 248 | 212 => 251 | 51 => 144 | 20 => 20 | 213 => 252 | 232 => 255 | 233 => 256 | 80 => 143 | n => n, fun | 15 => 4 | 16 => 5 | 17 => 6 | 18 => 7 | 19 => 8 | n => n⟩
theorem Tryz.lays172 : Go.Proofs.Lays.n172 Tryz.prog Tryz.lays172_ren := {
 mixed := by kernel_rfl
 f129 := Tryz.func169.trans (congrArg some (by kernel_rfl))
 f171 := Tryz.func159.trans (congrArg some (by kernel_rfl))
 f172 := Tryz.func136.trans (congrArg some (by kernel_rfl))
 f205 := Tryz.func47.trans (congrArg some (by kernel_rfl))
 f243 := Tryz.func162.trans (congrArg some (by kernel_rfl))
 f244 := Tryz.func148.trans (congrArg some (by kernel_rfl))
 f245 := Tryz.func149.trans (congrArg some (by kernel_rfl))
 f246 := Tryz.func163.trans (congrArg some (by kernel_rfl))
 f247 := Tryz.func152.trans (congrArg some (by kernel_rfl))
 f279 := Tryz.func153.trans (congrArg some (by kernel_rfl))
 f280 := Tryz.func154.trans (congrArg some (by kernel_rfl))
 f281 := Tryz.func155.trans (congrArg some (by kernel_rfl))
 f282 := Tryz.func156.trans (congrArg some (by kernel_rfl))
 f283 := Tryz.func164.trans (congrArg some (by kernel_rfl))
 f284 := Tryz.func165.trans (congrArg some (by kernel_rfl))
 f285 := Tryz.func166.trans (congrArg some (by kernel_rfl))
 f286 := Tryz.func167.trans (congrArg some (by kernel_rfl))
 f287 := Tryz.func157.trans (congrArg some (by kernel_rfl))
 f316 := Tryz.func158.trans (congrArg some (by kernel_rfl))
 f317 := Tryz.func168.trans (congrArg some (by kernel_rfl))
 f318 := Tryz.func170.trans (congrArg some (by kernel_rfl))
 f319 := Tryz.func171.trans (congrArg some (by kernel_rfl))
 f320 := Tryz.func172.trans (congrArg some (by kernel_rfl))
 f321 := Tryz.func160.trans (congrArg some (by kernel_rfl))
 f322 := Tryz.func161.trans (congrArg some (by kernel_rfl))
 f337 := Tryz.func173.trans (congrArg some (by kernel_rfl))
 f338 := Tryz.func174.trans (congrArg some (by kernel_rfl))
 t0 := Tryz.underlying0
 a0 := Tryz.isAgg0
 z0 := Tryz.sizeOf0
 v0 := Tryz.zeroValue0
 t2 := Tryz.underlying2
 a2 := Tryz.isAgg2
 z2 := Tryz.sizeOf2
 v2 := Tryz.zeroValue2
 t3 := Tryz.underlying3
 a3 := Tryz.isAgg3
 z3 := Tryz.sizeOf3
 v3 := Tryz.zeroValue3
 t4 := Tryz.underlying4
 a4 := Tryz.isAgg4
 z4 := Tryz.sizeOf4
 v4 := Tryz.zeroValue4
 t5 := Tryz.underlying5
 a5 := Tryz.isAgg5
 z5 := Tryz.sizeOf5
 v5 := Tryz.zeroValue5
 t9 := Tryz.underlying9
 a9 := Tryz.isAgg9
 z9 := Tryz.sizeOf9
 v9 := Tryz.zeroValue9
 t20 := Tryz.underlying20
 a20 := Tryz.isAgg20
 z20 := Tryz.sizeOf20
 v20 := Tryz.zeroValue20
 t21 := Tryz.underlying21
 a21 := Tryz.isAgg21
 z21 := Tryz.sizeOf21
 v21 := Tryz.zeroValue21
 t37 := Tryz.underlying137
 a37 := Tryz.isAgg137
 z37 := Tryz.sizeOf137
 v37 := Tryz.zeroValue137
 t46 := Tryz.underlying145
 a46 := Tryz.isAgg145
 z46 := Tryz.sizeOf145
 v46 := Tryz.zeroValue145
 t51 := Tryz.underlying144
 a51 := Tryz.isAgg144
 z51 := Tryz.sizeOf144
 v51 := Tryz.zeroValue144
 t53 := Tryz.underlying76
 a53 := Tryz.isAgg76
 z53 := Tryz.sizeOf76
 v53 := Tryz.zeroValue76
 t75 := Tryz.underlying71
 a75 := Tryz.isAgg71
 z75 := Tryz.sizeOf71
 v75 := Tryz.zeroValue71
 t76 := Tryz.underlying141
 a76 := Tryz.isAgg141
 z76 := Tryz.sizeOf141
 v76 := Tryz.zeroValue141
 t85 := Tryz.underlying234
 a85 := Tryz.isAgg234
 z85 := Tryz.sizeOf234
 v85 := Tryz.zeroValue234
 t127 := Tryz.underlying155
 a127 := Tryz.isAgg155
 z127 := Tryz.sizeOf155
 v127 := Tryz.zeroValue155
 t143 := Tryz.underlying133
 a143 := Tryz.isAgg133
 z143 := Tryz.sizeOf133
 v143 := Tryz.zeroValue133
 t145 := Tryz.underlying135
 a145 := Tryz.isAgg135
 z145 := Tryz.sizeOf135
 v145 := Tryz.zeroValue135
 t167 := Tryz.underlying233
 a167 := Tryz.isAgg233
 z167 := Tryz.sizeOf233
 v167 := Tryz.zeroValue233
 t168 := Tryz.underlying236
 a168 := Tryz.isAgg236
 z168 := Tryz.sizeOf236
 v168 := Tryz.zeroValue236
 t171 := Tryz.underlying245
 a171 := Tryz.isAgg245
 z171 := Tryz.sizeOf245
 v171 := Tryz.zeroValue245
 t173 := Tryz.underlying248
 a173 := Tryz.isAgg248
 z173 := Tryz.sizeOf248
 v173 := Tryz.zeroValue248
 t175 := Tryz.underlying239
 a175 := Tryz.isAgg239
 z175 := Tryz.sizeOf239
 v175 := Tryz.zeroValue239
 t210 := Tryz.underlying242
 a210 := Tryz.isAgg242
 z210 := Tryz.sizeOf242
 v210 := Tryz.zeroValue242
 t212 := Tryz.underlying251
 a212 := Tryz.isAgg251
 z212 := Tryz.sizeOf251
 v212 := Tryz.zeroValue251
 t213 := Tryz.underlying252
 a213 := Tryz.isAgg252
 z213 := Tryz.sizeOf252
 t232 := Tryz.underlying255
 a232 := Tryz.isAgg255
 z232 := Tryz.sizeOf255
 v232 := Tryz.zeroValue255
 t233 := Tryz.underlying256
 a233 := Tryz.isAgg256
 z233 := Tryz.sizeOf256
 v233 := Tryz.zeroValue256
 g15 := by kernel_rfl
 g16 := by kernel_rfl
 g17 := by kernel_rfl
 g18 := by kernel_rfl
 g19 := by kernel_rfl }
open Go.RowKit in
theorem Tryz.strconv_Atoi (s : ByteArray) (n : Int) (hl : s.size ≤ 18) (h : Lib.atoi s.data.toList = some n) (w : World) :
  Calls Tryz.prog 136 #[.string s] w fun e w' => e = .returned (.tuple #[.int .i64 n, .nilIface]) ∧ ∃ t, w' = Lib.bytesWorld w 5 t := Any.strconv_Atoi Tryz.lays172 s n hl h w
end Go.Proofs
namespace Go.Proofs.YtemgofomhjabpaaGreatDoor.Core
open Go.RowKit Go.Proofs.YtemgofomhjabpaaGreatDoorW.PrintWords
def isAscii (s : ByteArray) : Bool := s.data.toList.all fun b => decide (b.toNat < 128)
theorem isAscii_at {s : ByteArray} (h : isAscii s = true) (j : Nat) (b : UInt8) (hb : s.data.toList[j]? = some b) : b.toNat < 128 :=
 of_decide_eq_true (List.all_eq_true.1 h b (List.mem_of_getElem? hb))
def strings_ToLower.f (a0 : ByteArray) : Option (ByteArray) := if a0.size ≤ 140737488355328 then (if isAscii a0 = true then (some ⟨(Lib.toLowerA a0.data.toList).toArray⟩) else none) else none
theorem strings_ToLower.calls (a0 : ByteArray) (r : ByteArray) (w : World) (h : strings_ToLower.f a0 = some r) :
  Calls Tryz.prog 58 #[.string a0] w fun e w' => e = .returned (.string r) ∧ Below w.heap.size w w' := by
 unfold strings_ToLower.f at h
 split at h
 ·rename_i h1
  split at h
  ·rename_i h2
   obtain rfl := Option.some.inj h
   exact Tryz.strings_ToLower_ascii a0 w h1 (fun j b hb => isAscii_at h2 j b hb)
  ·cases h
 ·cases h
def strings_ToUpper.f (a0 : ByteArray) : Option (ByteArray) := if a0.size ≤ 140737488355328 then (if isAscii a0 = true then (some ⟨(Lib.toUpperA a0.data.toList).toArray⟩) else none) else none
theorem strings_ToUpper.calls (a0 : ByteArray) (r : ByteArray) (w : World) (h : strings_ToUpper.f a0 = some r) :
  Calls Tryz.prog 61 #[.string a0] w fun e w' => e = .returned (.string r) ∧ Below w.heap.size w w' := by
 unfold strings_ToUpper.f at h
 split at h
 ·rename_i h1
  split at h
  ·rename_i h2
   obtain rfl := Option.some.inj h
   exact Tryz.strings_ToUpper_ascii a0 w h1 (fun j b hb => isAscii_at h2 j b hb)
  ·cases h
 ·cases h
end Go.Proofs.YtemgofomhjabpaaGreatDoor.Core
namespace Go.Proofs.YtemgofomhjabpaaGreatDoor.Core
open Go.RowKit Go.Proofs.YtemgofomhjabpaaGreatDoorW.PrintWords Go.Proofs.YtemgofomhjabpaaGreatDoorW.PrintLast Go.Proofs.YtemgofomhjabpaaGreatDoorW.PrintMore
attribute [local go_sem] max2_int min2_int max_two min_two max_three min_three max_four min_four   -- for this text's walks alone
set_option linter.unusedVariables false
set_option linter.unusedSimpArgs false
def gronx_normalize.j0 : Nat → ByteArray → Option (List ByteArray)
 | 0, _ => none
 | k + 1, x0 => (gronx_zzSpaces.f k x0).bind fun t360 => ((strings_ToUpper.f t360).bind fun t361 => ((gronx_zzLiterals.f k t361).bind fun t362 => ((gronx_zzReplaceAll.f k t362 (⟨#[32, 32]⟩ : ByteArray) (⟨#[32]⟩ : ByteArray)).bind fun t363 => ((gronx_zzSplit.f k t363 (⟨#[32]⟩ : ByteArray)).bind fun t364 => (some t364)))))
def gronx_normalize.f (k : Nat) (a0 : ByteArray) : Option (List ByteArray) := (gronx_zzTrim.f k a0).bind fun t356 => ((strings_ToLower.f t356).bind fun t357 => ((gronx_expression.f t357).bind fun bt358 => (if bt358.2 = true then (gronx_normalize.j0 k bt358.1) else (gronx_normalize.j0 k t356))))
theorem gronx_normalize.mono_l : ∀ k, (∀ y0, LeO (gronx_normalize.j0 k y0) (gronx_normalize.j0 (k + 1) y0))
 | 0 => fun _ r h => by simp [gronx_normalize.j0] at h
 | k + 1 => by
  have ih0 := gronx_normalize.mono_l k
  ·intro y0
   unfold gronx_normalize.j0
   repeat' first
   | (with_reducible exact ih0 _)
   | (with_reducible exact gronx_zzLiterals.mono _ _)
   | (with_reducible exact gronx_zzReplaceAll.mono _ _ _ _)
   | (with_reducible exact gronx_zzSpaces.mono _ _)
   | (with_reducible exact gronx_zzSplit.mono _ _ _)
   | (with_reducible exact gronx_zzTrim.mono _ _)
   | (with_reducible exact LeO.refl _)
   | (with_reducible exact LeO.none _)
   | (with_reducible refine LeO.ite ?_ ?_)
   | (with_reducible refine LeO.bind ?_ (fun _ => ?_))
   | exact ih0 _
   | exact gronx_zzLiterals.mono _ _
   | exact gronx_zzReplaceAll.mono _ _ _ _
   | exact gronx_zzSpaces.mono _ _
   | exact gronx_zzSplit.mono _ _ _
   | exact gronx_zzTrim.mono _ _
   | exact LeO.none _
   | refine LeO.ite ?_ ?_
   | refine LeO.bind ?_ (fun _ => ?_)
theorem gronx_normalize.mono : ∀ a0 k, LeO (gronx_normalize.f k a0) (gronx_normalize.f (k + 1) a0) := by
 intro a0 k
 have ih0 := gronx_normalize.mono_l k
 unfold gronx_normalize.f
 repeat' first
   | (with_reducible exact ih0 _)
   | (with_reducible exact gronx_zzLiterals.mono _ _)
   | (with_reducible exact gronx_zzReplaceAll.mono _ _ _ _)
   | (with_reducible exact gronx_zzSpaces.mono _ _)
   | (with_reducible exact gronx_zzSplit.mono _ _ _)
   | (with_reducible exact gronx_zzTrim.mono _ _)
   | (with_reducible exact LeO.refl _)
   | (with_reducible exact LeO.none _)
   | (with_reducible refine LeO.ite ?_ ?_)
   | (with_reducible refine LeO.bind ?_ (fun _ => ?_))
   | exact ih0 _
   | exact gronx_zzLiterals.mono _ _
   | exact gronx_zzReplaceAll.mono _ _ _ _
   | exact gronx_zzSpaces.mono _ _
   | exact gronx_zzSplit.mono _ _ _
   | exact gronx_zzTrim.mono _ _
   | exact LeO.none _
   | refine LeO.ite ?_ ?_
   | refine LeO.bind ?_ (fun _ => ?_)
set_option maxHeartbeats 8000000 in
set_option maxRecDepth 100000 in
theorem gronx_normalize.calls (k : Nat) (a0 : ByteArray) (r : List ByteArray) (w : World) (h : gronx_normalize.f k a0 = some r) :
  Calls Tryz.prog 46 #[.string a0] w fun e w' => ∃ v0_ : Value, e = .returned (v0_) ∧ Kd.R Kd.string 9 w' w.heap.size (fun _ => True) v0_ r ∧ Below w.heap.size w w' := by
 have HB := Aside0.mk (Below.refl w.heap.size w)
 have H : ((gronx_zzTrim.f k a0).bind fun t356 => ((strings_ToLower.f t356).bind fun t357 => ((gronx_expression.f t357).bind fun bt358 => (if bt358.2 = true then (gronx_normalize.j0 k bt358.1) else (gronx_normalize.j0 k t356))))) = some r := h
 clear h
 replace H := Option.bind_eq_some_iff.mp H
 obtain ⟨t356, A20, H⟩ := H
 replace H : ((strings_ToLower.f t356).bind fun t357 => ((gronx_expression.f t357).bind fun bt358 => (if bt358.2 = true then (gronx_normalize.j0 k bt358.1) else (gronx_normalize.j0 k t356)))) = some r := H
 have A2 := Aside0.mk A20
 clear A20
 replace H := Option.bind_eq_some_iff.mp H
 obtain ⟨t357, A30, H⟩ := H
 replace H : ((gronx_expression.f t357).bind fun bt358 => (if bt358.2 = true then (gronx_normalize.j0 k bt358.1) else (gronx_normalize.j0 k t356))) = some r := H
 have A3 := Aside0.mk A30
 clear A30
 replace H := Option.bind_eq_some_iff.mp H
 obtain ⟨⟨t358, t359⟩, A40, H⟩ := H
 replace H : (if t359 = true then (gronx_normalize.j0 k t358) else (gronx_normalize.j0 k t356)) = some r := H
 have A4 := Aside0.mk A40
 clear A40
 have HC5 := Aside0.mk H
 clear H
 go_enter Tryz.func46, Tryz.ntmps46
 go_upto_if 13 with (first | ((with_reducible refine gate_callee (f := 56) rfl ?_); refine goesL_ (some 6) rfl rfl Tryz.func56 (by kernel_rfl) rfl #[.string a0] rfl (by (try simp only [List.map_toArray, List.map_cons, List.map_nil]); first | done | rfl | (simp only [List.length_drop, List.length_take]; rfl)) ?_; (with_reducible refine (gronx_zzTrim.calls k a0 t356 _ A2.out).mono ?_); rintro e w' ⟨rfl, ⟨nd, rfl⟩⟩; refine ⟨_, rfl, ?_⟩) | ((with_reducible refine gate_callee (f := 58) rfl ?_); refine goesL_ (some 9) rfl rfl Tryz.func58 (by kernel_rfl) rfl #[.string t356] rfl (by (try simp only [List.map_toArray, List.map_cons, List.map_nil]); first | done | rfl | (simp only [List.length_drop, List.length_take]; rfl)) ?_; (with_reducible refine (strings_ToLower.calls t356 t357 _ A3.out).mono ?_); rintro e w6 ⟨rfl, hb⟩; refine ⟨_, rfl, ?_⟩; have n0_ := Aside0.mk (below_step (by repeat (first | (with_reducible first | exact HB.out | apply below_alloc | apply pw_below_drewN | apply below_drew1) | exact HB.out)) hb); clear HB; have HB := n0_; clear n0_; (try clear hb); (try clear hb2); (try clear hk); (try clear hi)) | ((with_reducible refine gate_callee (f := 57) rfl ?_); refine goesL_ (some 10) rfl rfl Tryz.func57 (by kernel_rfl) rfl #[.string t357] rfl (by (try simp only [List.map_toArray, List.map_cons, List.map_nil]); first | done | rfl | (simp only [List.length_drop, List.length_take]; rfl)) ?_; (with_reducible refine (gronx_expression.calls t357 t358 t359 _ A4.out).mono ?_); rintro e w' ⟨rfl, ⟨nd, rfl⟩⟩; refine ⟨_, rfl, ?_⟩))
 (try simp only [Act.put, List.setIfInBounds_toArray, List.set_cons_zero, List.set_cons_succ])
 go_cut [0] (fun v0 wc => ∃ (kq : Nat) (x0_4 : ByteArray), v0 = .string x0_4 ∧ Aside0 (gronx_normalize.j0 kq x0_4 = some r) ∧ Aside0 (kq ≤ k) ∧ Aside0 (Below w.heap.size w wc))
 case first =>
  have H := HC5.out
  clear HC5
  by_cases c7 : t359 = true
  ·subst c7
   have H1 : (gronx_normalize.j0 k t358) = some r := by rw [if_pos rfl] at H; exact H
   clear H
   have H := H1
   clear H1
   have H' := Aside0.mk H
   clear H
   go_wp2
   go_meet
   case rel => exact ⟨_, (t358), (by first | rfl | (simp; done) | (simp [*]; done)), H', ⟨by first | omega | exact Nat.le_refl _⟩, ⟨by repeat (first | (with_reducible first | exact HB.out | apply below_alloc | apply pw_below_drewN | apply below_drew1) | exact HB.out)⟩⟩
  ·replace c7 := Bool.eq_false_iff.mpr c7
   subst c7
   have H1 : (gronx_normalize.j0 k t356) = some r := by rw [if_neg (show ¬ (false = true) by decide)] at H; exact H
   clear H
   have H := H1
   clear H1
   have H' := Aside0.mk H
   clear H
   go_wp2
   go_meet
   case rel => exact ⟨_, (t356), (by first | rfl | (simp; done) | (simp [*]; done)), H', ⟨by first | omega | exact Nat.le_refl _⟩, ⟨by repeat (first | (with_reducible first | exact HB.out | apply below_alloc | apply pw_below_drewN | apply below_drew1) | exact HB.out)⟩⟩
 case rest =>
  clear HC5
  obtain ⟨kq, x0_4, rfl, HA, HJ4, HB⟩ := hcut
  cases kq with
  | zero => exact absurd HA.out (by simp [gronx_normalize.j0])
  | succ kj4 =>
   have H := HA.out
   clear HA
   simp only [gronx_normalize.j0] at H
   replace H := Option.bind_eq_some_iff.mp H
   obtain ⟨t360, A80, H⟩ := H
   replace H : ((strings_ToUpper.f t360).bind fun t361 => ((gronx_zzLiterals.f kj4 t361).bind fun t362 => ((gronx_zzReplaceAll.f kj4 t362 (⟨#[32, 32]⟩ : ByteArray) (⟨#[32]⟩ : ByteArray)).bind fun t363 => ((gronx_zzSplit.f kj4 t363 (⟨#[32]⟩ : ByteArray)).bind fun t364 => (some t364))))) = some r := H
   have A8 := Aside0.mk A80
   clear A80
   replace H := Option.bind_eq_some_iff.mp H
   obtain ⟨t361, A90, H⟩ := H
   replace H : ((gronx_zzLiterals.f kj4 t361).bind fun t362 => ((gronx_zzReplaceAll.f kj4 t362 (⟨#[32, 32]⟩ : ByteArray) (⟨#[32]⟩ : ByteArray)).bind fun t363 => ((gronx_zzSplit.f kj4 t363 (⟨#[32]⟩ : ByteArray)).bind fun t364 => (some t364)))) = some r := H
   have A9 := Aside0.mk A90
   clear A90
   replace H := Option.bind_eq_some_iff.mp H
   obtain ⟨t362, A100, H⟩ := H
   replace H : ((gronx_zzReplaceAll.f kj4 t362 (⟨#[32, 32]⟩ : ByteArray) (⟨#[32]⟩ : ByteArray)).bind fun t363 => ((gronx_zzSplit.f kj4 t363 (⟨#[32]⟩ : ByteArray)).bind fun t364 => (some t364))) = some r := H
   have A10 := Aside0.mk A100
   clear A100
   replace H := Option.bind_eq_some_iff.mp H
   obtain ⟨t363, A110, H⟩ := H
   replace H : ((gronx_zzSplit.f kj4 t363 (⟨#[32]⟩ : ByteArray)).bind fun t364 => (some t364)) = some r := H
   have A11 := Aside0.mk A110
   clear A110
   replace H := Option.bind_eq_some_iff.mp H
   obtain ⟨t364, A120, H⟩ := H
   replace H : (some t364) = some r := H
   have A12 := Aside0.mk A120
   clear A120
   obtain rfl := Option.some.inj H
   go_wp2_with (first | ((with_reducible refine gate_callee (f := 59) rfl ?_); refine goesL_ (some 16) rfl rfl Tryz.func59 (by kernel_rfl) rfl #[.string x0_4] rfl (by (try simp only [List.map_toArray, List.map_cons, List.map_nil]); first | done | rfl | (simp only [List.length_drop, List.length_take]; rfl)) ?_; (with_reducible refine (gronx_zzSpaces.calls kj4 x0_4 t360 _ A8.out).mono ?_); rintro e w13 ⟨rfl, hb⟩; refine ⟨_, rfl, ?_⟩; have n0_ := Aside0.mk (below_step (by repeat (first | (with_reducible first | exact HB.out | apply below_alloc | apply pw_below_drewN | apply below_drew1) | exact HB.out)) hb); clear HB; have HB := n0_; clear n0_; (try clear hb); (try clear hb2); (try clear hk); (try clear hi)) | ((with_reducible refine gate_callee (f := 61) rfl ?_); refine goesL_ (some 18) rfl rfl Tryz.func61 (by kernel_rfl) rfl #[.string t360] rfl (by (try simp only [List.map_toArray, List.map_cons, List.map_nil]); first | done | rfl | (simp only [List.length_drop, List.length_take]; rfl)) ?_; (with_reducible refine (strings_ToUpper.calls t360 t361 _ A9.out).mono ?_); rintro e w14 ⟨rfl, hb⟩; refine ⟨_, rfl, ?_⟩; have n0_ := Aside0.mk (below_step (by repeat (first | (with_reducible first | exact HB.out | apply below_alloc | apply pw_below_drewN | apply below_drew1) | exact HB.out)) hb); clear HB; have HB := n0_; clear n0_; (try clear hb); (try clear hb2); (try clear hk); (try clear hi)) | ((with_reducible refine gate_callee (f := 60) rfl ?_); refine goesL_ (some 19) rfl rfl Tryz.func60 (by kernel_rfl) rfl #[.string t361] rfl (by (try simp only [List.map_toArray, List.map_cons, List.map_nil]); first | done | rfl | (simp only [List.length_drop, List.length_take]; rfl)) ?_; (with_reducible refine (gronx_zzLiterals.calls kj4 t361 t362 _ A10.out).mono ?_); rintro e w15 ⟨rfl, hb⟩; refine ⟨_, rfl, ?_⟩; have n0_ := Aside0.mk (below_step (by repeat (first | (with_reducible first | exact HB.out | apply below_alloc | apply pw_below_drewN | apply below_drew1) | exact HB.out)) hb); clear HB; have HB := n0_; clear n0_; (try clear hb); (try clear hb2); (try clear hk); (try clear hi)) | ((with_reducible refine gate_callee (f := 63) rfl ?_); refine goesL_ (some 21) rfl rfl Tryz.func63 (by kernel_rfl) rfl #[.string t362, .string (⟨#[32, 32]⟩ : ByteArray), .string (⟨#[32]⟩ : ByteArray)] rfl (by (try simp only [List.map_toArray, List.map_cons, List.map_nil]); first | done | rfl | (simp only [List.length_drop, List.length_take]; rfl)) ?_; (with_reducible refine (gronx_zzReplaceAll.calls kj4 t362 (⟨#[32, 32]⟩ : ByteArray) (⟨#[32]⟩ : ByteArray) t363 _ A11.out).mono ?_); rintro e w16 ⟨rfl, hb⟩; refine ⟨_, rfl, ?_⟩; have n0_ := Aside0.mk (below_step (by repeat (first | (with_reducible first | exact HB.out | apply below_alloc | apply pw_below_drewN | apply below_drew1) | exact HB.out)) hb); clear HB; have HB := n0_; clear n0_; (try clear hb); (try clear hb2); (try clear hk); (try clear hi)) | ((with_reducible refine gate_callee (f := 62) rfl ?_); refine goesL_ (some 22) rfl rfl Tryz.func62 (by kernel_rfl) rfl #[.string t363, .string (⟨#[32]⟩ : ByteArray)] rfl (by (try simp only [List.map_toArray, List.map_cons, List.map_nil]); first | done | rfl | (simp only [List.length_drop, List.length_take]; rfl)) ?_; (with_reducible refine (gronx_zzSplit.calls kj4 t363 (⟨#[32]⟩ : ByteArray) t364 _ A12.out).mono ?_); rintro e w17 ⟨v365, rfl, ho0, hb⟩; refine ⟨_, rfl, ?_⟩; have n0_ := Aside0.mk (Kd.R_lower ho0 (below_size (by repeat (first | (with_reducible first | exact HB.out | apply below_alloc | apply pw_below_drewN | apply below_drew1) | exact HB.out)))); have n1_ := Aside0.mk (below_step (by repeat (first | (with_reducible first | exact HB.out | apply below_alloc | apply pw_below_drewN | apply below_drew1) | exact HB.out)) hb); clear HB; have HO366 := n0_; have HB := n1_; clear n0_ n1_; (try clear hb); (try clear hb2); (try clear hk); (try clear hi); (try clear ho0)))
   go_ret
   exact ⟨_, by first | rfl | (simp [errW_none, errW_some] <;> rfl) | (simp [*, errW_none, errW_some] <;> rfl), by (with_reducible repeat (first | apply Kd.R_alloc | apply Kd.R_drewN | apply Kd.R_drew)); exact HO366.out, by repeat (first | (with_reducible first | exact HB.out | apply below_alloc | apply pw_below_drewN | apply below_drew1) | exact HB.out)⟩
mutual
def gronx_zzHasYear.l0 : Nat → ByteArray → Int → Int → Option (Bool)
 | 0, _, _, _ => none
 | k + 1, x0, x3, x4 => if x4 < (x0.size : Int) then (if 0 ≤ x4 then (if (bt x0 x4) < 48 then (gronx_zzHasYear.j1 k x0 x3 x4 true) else (gronx_zzHasYear.j1 k x0 x3 x4 (decide ((bt x0 x4) > 57)))) else (none)) else (some false)
def gronx_zzHasYear.j1 : Nat → ByteArray → Int → Int → Bool → Option (Bool)
 | 0, _, _, _, _ => none
 | k + 1, x0, x3, x4, x20 => if x20 = true then (gronx_zzHasYear.l0 k x0 0 (wrap64 (x4 + 1))) else (if (wrap64 (x3 + 1)) = 4 then (some true) else (gronx_zzHasYear.l0 k x0 (wrap64 (x3 + 1)) (wrap64 (x4 + 1))))
end
def gronx_zzHasYear.f (k : Nat) (a0 : ByteArray) : Option (Bool) := gronx_zzHasYear.l0 k a0 0 0
theorem gronx_zzHasYear.mono_l : ∀ k, (∀ y0 y1 y2, LeO (gronx_zzHasYear.l0 k y0 y1 y2) (gronx_zzHasYear.l0 (k + 1) y0 y1 y2)) ∧ (∀ y0 y1 y2 y3, LeO (gronx_zzHasYear.j1 k y0 y1 y2 y3) (gronx_zzHasYear.j1 (k + 1) y0 y1 y2 y3))
 | 0 => ⟨fun _ _ _ r h => by simp [gronx_zzHasYear.l0] at h, fun _ _ _ _ r h => by simp [gronx_zzHasYear.j1] at h⟩
 | k + 1 => by
  obtain ⟨ih0, ih1⟩ := gronx_zzHasYear.mono_l k
  refine ⟨?_, ?_⟩
  ·intro y0 y1 y2
   unfold gronx_zzHasYear.l0
   repeat' first
   | (with_reducible exact ih0 _ _ _)
   | (with_reducible exact ih1 _ _ _ _)
   | (with_reducible exact LeO.refl _)
   | (with_reducible exact LeO.none _)
   | (with_reducible refine LeO.ite ?_ ?_)
   | (with_reducible refine LeO.bind ?_ (fun _ => ?_))
   | exact ih0 _ _ _
   | exact ih1 _ _ _ _
   | exact LeO.none _
   | refine LeO.ite ?_ ?_
   | refine LeO.bind ?_ (fun _ => ?_)
  ·intro y0 y1 y2 y3
   unfold gronx_zzHasYear.j1
   repeat' first
   | (with_reducible exact ih0 _ _ _)
   | (with_reducible exact ih1 _ _ _ _)
   | (with_reducible exact LeO.refl _)
   | (with_reducible exact LeO.none _)
   | (with_reducible refine LeO.ite ?_ ?_)
   | (with_reducible refine LeO.bind ?_ (fun _ => ?_))
   | exact ih0 _ _ _
   | exact ih1 _ _ _ _
   | exact LeO.none _
   | refine LeO.ite ?_ ?_
   | refine LeO.bind ?_ (fun _ => ?_)
theorem gronx_zzHasYear.mono : ∀ a0 k, LeO (gronx_zzHasYear.f k a0) (gronx_zzHasYear.f (k + 1) a0) := by
 intro a0 k
 obtain ⟨ih0, ih1⟩ := gronx_zzHasYear.mono_l k
 unfold gronx_zzHasYear.f
 repeat' first
   | (with_reducible exact ih0 _ _ _)
   | (with_reducible exact ih1 _ _ _ _)
   | (with_reducible exact LeO.refl _)
   | (with_reducible exact LeO.none _)
   | (with_reducible refine LeO.ite ?_ ?_)
   | (with_reducible refine LeO.bind ?_ (fun _ => ?_))
   | exact ih0 _ _ _
   | exact ih1 _ _ _ _
   | exact LeO.none _
   | refine LeO.ite ?_ ?_
   | refine LeO.bind ?_ (fun _ => ?_)
set_option maxHeartbeats 8000000 in
set_option maxRecDepth 100000 in
theorem gronx_zzHasYear.calls (k : Nat) (a0 : ByteArray) (r : Bool) (w : World) (h : gronx_zzHasYear.f k a0 = some r) :
  Calls Tryz.prog 48 #[.string a0] w fun e w' => e = .returned (.bool r) ∧ Drawn0 w w' := by
 have H : (gronx_zzHasYear.l0 k a0 0 0) = some r := h
 clear h
 have H' := Aside0.mk H
 clear H
 go_enter Tryz.func48, Tryz.ntmps48
 go_wp2
 go_loopg [3, 4] k (fun kq v3 v4 w' => ∃ (x3_1 : Int) (x4_1 : Int), v3 = .int .i64 x3_1 ∧ v4 = .int .i64 x4_1 ∧ Aside0 (gronx_zzHasYear.l0 kq a0 x3_1 x4_1 = some r) ∧ Aside0 (kq ≤ k) ∧ Drawn0 w w')
 case atStart => exact ⟨(0), (0), (by first | rfl | (simp; done) | (simp [*]; done)), (by first | rfl | (simp; done) | (simp [*]; done)), H', ⟨Nat.le_refl _⟩, by repeat (first | exact Drawn0.refl _ | apply Drawn0.step)⟩
 case round =>
  clear H'
  obtain ⟨x3_1, x4_1, rfl, rfl, HA, HK1, ⟨m1, rfl⟩⟩ := hrel
  cases gk with
  | zero => exact absurd HA.out (by simp [gronx_zzHasYear.l0])
  | succ k1 =>
   have H := HA.out
   clear HA
   simp only [gronx_zzHasYear.l0] at H
   by_cases c2 : x4_1 < (a0.size : Int)
   ·rw [if_pos c2] at H
    have c2b0 : decide (x4_1 < (a0.size : Int)) = true := decide_eq_true c2
    clear c2
    have HC3 := Aside0.mk H
    clear H
    go_upto_region 5 with (fail)
    go_cut [20] (fun v20 wc => ∃ (kq : Nat) (x20_2 : Bool), v20 = .bool x20_2 ∧ Aside0 (gronx_zzHasYear.j1 kq a0 x3_1 x4_1 x20_2 = some r) ∧ Aside0 (kq ≤ k1) ∧ Drawn0 w wc)
    case first =>
     have H := HC3.out
     clear HC3
     by_cases c4 : 0 ≤ x4_1
     ·rw [if_pos c4] at H
      have c4b0 : decide (0 ≤ x4_1) = true := decide_eq_true c4
      clear c4
      (first | rw [c4b0] | (simp only [i64_w, i32_w]; rw [c4b0]) | skip)
      by_cases c6 : (bt a0 x4_1) < 48
      ·rw [if_pos c6] at H
       have c6b0 : decide ((bt a0 x4_1) < 48) = true := decide_eq_true c6
       clear c6
       have H' := Aside0.mk H
       clear H
       have p5 : 0 ≤ (x4_1 : Int) := of_decide_eq_true (by first | (with_reducible assumption) | assumption)
       have q5 : x4_1 < (a0.size : Int) := of_decide_eq_true (by first | (with_reducible assumption) | assumption)
       have hx5 := bt_at a0 x4_1
       replace p5 := eq_true p5
       replace q5 := eq_true q5
       go_wp2
       go_meet
       case rel => exact ⟨_, (true), (by first | rfl | (simp; done) | (simp [*]; done)), H', ⟨by have := HK1.out; first | omega | exact Nat.le_refl _⟩, by repeat (first | exact Drawn0.refl _ | apply Drawn0.step)⟩
      ·rw [if_neg c6] at H
       have c6b0 : decide ((bt a0 x4_1) < 48) = false := decide_eq_false c6
       clear c6
       have H' := Aside0.mk H
       clear H
       have p5 : 0 ≤ (x4_1 : Int) := of_decide_eq_true (by first | (with_reducible assumption) | assumption)
       have q5 : x4_1 < (a0.size : Int) := of_decide_eq_true (by first | (with_reducible assumption) | assumption)
       have hx5 := bt_at a0 x4_1
       replace p5 := eq_true p5
       replace q5 := eq_true q5
       have p7 : 0 ≤ (x4_1 : Int) := of_decide_eq_true (by first | (with_reducible assumption) | assumption)
       have q7 : x4_1 < (a0.size : Int) := of_decide_eq_true (by first | (with_reducible assumption) | assumption)
       have hx7 := bt_at a0 x4_1
       replace p7 := eq_true p7
       replace q7 := eq_true q7
       go_wp2
       go_meet
       case rel => exact ⟨_, (decide ((bt a0 x4_1) > 57)), (by first | rfl | (simp; done) | (simp [*]; done)), H', ⟨by have := HK1.out; first | omega | exact Nat.le_refl _⟩, by repeat (first | exact Drawn0.refl _ | apply Drawn0.step)⟩
     ·rw [if_neg c4] at H
      exact absurd H (by simp)
    case rest =>
     clear HC3
     obtain ⟨kq, x20_2, rfl, HA, HJ2, ⟨mc2, rfl⟩⟩ := hcut
     cases kq with
     | zero => exact absurd HA.out (by simp [gronx_zzHasYear.j1])
     | succ kj2 =>
      have H := HA.out
      clear HA
      simp only [gronx_zzHasYear.j1] at H
      by_cases c8 : x20_2 = true
      ·subst c8
       have H1 : (gronx_zzHasYear.l0 kj2 a0 0 (wrap64 (x4_1 + 1))) = some r := by rw [if_pos rfl] at H; exact H
       clear H
       have H := H1
       clear H1
       have H' := Aside0.mk H
       clear H
       go_wp2
       go_roundg kj2
       case measure => have := HK1.out; have := HJ2.out; omega
       case rel => exact ⟨(0), (wrap64 (x4_1 + 1)), (by first | rfl | (simp; done) | (simp [*]; done)), (by first | rfl | (simp; done) | (simp [*]; done)), H', ⟨by have := HK1.out; have := HJ2.out; omega⟩, by repeat (first | exact Drawn0.refl _ | apply Drawn0.step)⟩
      ·replace c8 := Bool.eq_false_iff.mpr c8
       subst c8
       have H1 : (if (wrap64 (x3_1 + 1)) = 4 then (some true) else (gronx_zzHasYear.l0 kj2 a0 (wrap64 (x3_1 + 1)) (wrap64 (x4_1 + 1)))) = some r := by rw [if_neg (show ¬ (false = true) by decide)] at H; exact H
       clear H
       have H := H1
       clear H1
       by_cases c9 : (wrap64 (x3_1 + 1)) = 4
       ·rw [if_pos c9] at H
        have c9b0 : ((wrap64 (x3_1 + 1)) == 4) = true := beq_iff_eq.mpr c9
        have c9b1 : ((wrap64 (x3_1 + 1)) != 4) = false := bne_eq_false_iff_eq.mpr c9
        clear c9
        obtain rfl := Option.some.inj H
        go_wp2
        go_ret
        exact ⟨by first | rfl | (simp; done) | (simp [*]; done), by repeat (first | exact Drawn0.refl _ | apply Drawn0.step)⟩
       ·rw [if_neg c9] at H
        have c9b0 : ((wrap64 (x3_1 + 1)) == 4) = false := beq_eq_false_iff_ne.mpr c9
        have c9b1 : ((wrap64 (x3_1 + 1)) != 4) = true := bne_iff_ne.mpr c9
        have H' := Aside0.mk H
        clear H
        go_wp2
        go_roundg kj2
        case measure => have := HK1.out; have := HJ2.out; omega
        case rel => exact ⟨(wrap64 (x3_1 + 1)), (wrap64 (x4_1 + 1)), (by first | rfl | (simp; done) | (simp [*]; done)), (by first | rfl | (simp; done) | (simp [*]; done)), H', ⟨by have := HK1.out; have := HJ2.out; omega⟩, by repeat (first | exact Drawn0.refl _ | apply Drawn0.step)⟩
   ·rw [if_neg c2] at H
    have c2b0 : decide (x4_1 < (a0.size : Int)) = false := decide_eq_false c2
    clear c2
    obtain rfl := Option.some.inj H
    go_wp2
    go_ret
    exact ⟨by first | rfl | (simp; done) | (simp [*]; done), by repeat (first | exact Drawn0.refl _ | apply Drawn0.step)⟩
def gronx_Segments.j0 : Nat → List ByteArray → Int → Bool → Option (List ByteArray × Option Int)
 | 0, _, _, _ => none
 | k + 1, x4, x5, x16 => if x16 = true then ((errors_New.f (⟨#[101, 120, 112, 114, 32, 115, 104, 111, 117, 108, 100, 32, 99, 111, 110, 116, 97, 105, 110, 32, 53, 45, 55, 32, 115, 101, 103, 109, 101, 110, 116, 115, 32, 115, 101, 112, 97, 114, 97, 116, 101, 100, 32, 98, 121, 32, 115, 112, 97, 99, 101]⟩ : ByteArray)).bind fun t373 => (some ((([] : List ByteArray)), t373))) else (if x5 = 5 then ((some (([(⟨#[48]⟩ : ByteArray)] : List ByteArray) : List ByteArray)).bind fun y374 => (if y374.length + x4.length < 8796093022208 then (some ((y374 ++ x4), none)) else (none))) else (if x5 = 6 then (if 5 < (x4.length : Int) then ((gronx_zzHasYear.f k (rdOf ByteArray.empty x4 5)).bind fun t381 => (if t381 = true then ((some (([(⟨#[48]⟩ : ByteArray)] : List ByteArray) : List ByteArray)).bind fun y382 => (if y382.length + x4.length < 8796093022208 then (some ((y382 ++ x4), none)) else (none))) else (some (x4, none)))) else (none)) else (some (x4, none))))
def gronx_Segments.f (k : Nat) (a0 : ByteArray) : Option (List ByteArray × Option Int) := (gronx_normalize.f k a0).bind fun t367 => (if (t367.length : Int) < 5 then (gronx_Segments.j0 k t367 (t367.length : Int) true) else (gronx_Segments.j0 k t367 (t367.length : Int) (decide ((t367.length : Int) > 7))))
theorem gronx_Segments.mono_l : ∀ k, (∀ y0 y1 y2, LeO (gronx_Segments.j0 k y0 y1 y2) (gronx_Segments.j0 (k + 1) y0 y1 y2))
 | 0 => fun _ _ _ r h => by simp [gronx_Segments.j0] at h
 | k + 1 => by
  have ih0 := gronx_Segments.mono_l k
  ·intro y0 y1 y2
   unfold gronx_Segments.j0
   repeat' first
   | (with_reducible exact ih0 _ _ _)
   | (with_reducible exact gronx_normalize.mono _ _)
   | (with_reducible exact gronx_zzHasYear.mono _ _)
   | (with_reducible exact LeO.refl _)
   | (with_reducible exact LeO.none _)
   | (with_reducible refine LeO.ite ?_ ?_)
   | (with_reducible refine LeO.bind ?_ (fun _ => ?_))
   | exact ih0 _ _ _
   | exact gronx_normalize.mono _ _
   | exact gronx_zzHasYear.mono _ _
   | exact LeO.none _
   | refine LeO.ite ?_ ?_
   | refine LeO.bind ?_ (fun _ => ?_)
theorem gronx_Segments.mono : ∀ a0 k, LeO (gronx_Segments.f k a0) (gronx_Segments.f (k + 1) a0) := by
 intro a0 k
 have ih0 := gronx_Segments.mono_l k
 unfold gronx_Segments.f
 repeat' first
   | (with_reducible exact ih0 _ _ _)
   | (with_reducible exact gronx_normalize.mono _ _)
   | (with_reducible exact gronx_zzHasYear.mono _ _)
   | (with_reducible exact LeO.refl _)
   | (with_reducible exact LeO.none _)
   | (with_reducible refine LeO.ite ?_ ?_)
   | (with_reducible refine LeO.bind ?_ (fun _ => ?_))
   | exact ih0 _ _ _
   | exact gronx_normalize.mono _ _
   | exact gronx_zzHasYear.mono _ _
   | exact LeO.none _
   | refine LeO.ite ?_ ?_
   | refine LeO.bind ?_ (fun _ => ?_)
set_option maxHeartbeats 8000000 in
set_option maxRecDepth 100000 in
theorem gronx_Segments.calls (k : Nat) (a0 : ByteArray) (r1 : List ByteArray) (r2 : Option Int) (w : World) (h : gronx_Segments.f k a0 = some (r1, r2)) :
  Calls Tryz.prog 39 #[.string a0] w fun e w' => ∃ v0_ : Value, e = .returned (.tuple #[v0_, errW r2]) ∧ Kd.R Kd.string 9 w' w.heap.size (fun _ => True) v0_ r1 ∧ Below w.heap.size w w' := by
 have HB := Aside0.mk (Below.refl w.heap.size w)
 have H : ((gronx_normalize.f k a0).bind fun t367 => (if (t367.length : Int) < 5 then (gronx_Segments.j0 k t367 (t367.length : Int) true) else (gronx_Segments.j0 k t367 (t367.length : Int) (decide ((t367.length : Int) > 7))))) = some (r1, r2) := h
 clear h
 replace H := Option.bind_eq_some_iff.mp H
 obtain ⟨t367, A20, H⟩ := H
 replace H : (if (t367.length : Int) < 5 then (gronx_Segments.j0 k t367 (t367.length : Int) true) else (gronx_Segments.j0 k t367 (t367.length : Int) (decide ((t367.length : Int) > 7)))) = some (r1, r2) := H
 have A2 := Aside0.mk A20
 clear A20
 have HC3 := Aside0.mk H
 clear H
 go_enter Tryz.func39, Tryz.ntmps39
 go_upto_region 3 with (first | ((with_reducible refine gate_callee (f := 46) rfl ?_); refine goesL_ (some 8) rfl rfl Tryz.func46 (by kernel_rfl) rfl #[.string a0] rfl (by (try simp only [List.map_toArray, List.map_cons, List.map_nil]); first | done | rfl | (simp only [List.length_drop, List.length_take]; rfl)) ?_; (with_reducible refine (gronx_normalize.calls k a0 t367 _ A2.out).mono ?_); rintro e w4 ⟨v368, rfl, ho0, hb⟩; refine ⟨_, rfl, ?_⟩; have n0_ := Aside0.mk (Kd.R_lower ho0 (below_size (by repeat (first | (with_reducible first | exact HB.out | apply below_alloc | apply pw_below_drewN | apply below_drew1) | exact HB.out)))); have n1_ := Aside0.mk (below_step (by repeat (first | (with_reducible first | exact HB.out | apply below_alloc | apply pw_below_drewN | apply below_drew1) | exact HB.out)) hb); clear HB; have HO369 := n0_; have HB := n1_; clear n0_ n1_; (try clear hb); (try clear hb2); (try clear hk); (try clear hi); (try clear ho0); obtain ⟨Ao5, co5, eo5⟩ := Kd.R_slice HO369.out; subst eo5))
 (try simp only [Act.put, List.setIfInBounds_toArray, List.set_cons_zero, List.set_cons_succ])
 go_cut [16] (fun v16 wc => ∃ (kq : Nat) (x16_2 : Bool), v16 = .bool x16_2 ∧ Aside0 (gronx_Segments.j0 kq t367 (t367.length : Int) x16_2 = some (r1, r2)) ∧ Aside0 (kq ≤ k) ∧ Aside0 (Kd.R Kd.string 9 wc w.heap.size (fun _ => True) (.slice Ao5 t367.length co5) t367) ∧ Aside0 (Below w.heap.size w wc))
 case first =>
  have H := HC3.out
  clear HC3
  by_cases c6 : (t367.length : Int) < 5
  ·rw [if_pos c6] at H
   have c6b0 : decide ((t367.length : Int) < 5) = true := decide_eq_true c6
   have c6b1 : decide (t367.length < 5) = true := decide_eq_true (by omega)
   clear c6
   (first | rw [c6b0] | (simp only [i64_w, i32_w]; rw [c6b0]) | skip)
   have H' := Aside0.mk H
   clear H
   go_wp2
   go_meet
   case rel => exact ⟨_, (true), (by first | rfl | (simp; done) | (simp [*]; done)), H', ⟨by first | omega | exact Nat.le_refl _⟩, ⟨by (with_reducible repeat (first | apply Kd.R_alloc | apply Kd.R_drewN | apply Kd.R_drew)); exact HO369.out⟩, ⟨by repeat (first | (with_reducible first | exact HB.out | apply below_alloc | apply pw_below_drewN | apply below_drew1) | exact HB.out)⟩⟩
  ·rw [if_neg c6] at H
   have c6b0 : decide ((t367.length : Int) < 5) = false := decide_eq_false c6
   have c6b1 : decide (t367.length < 5) = false := decide_eq_false (by omega)
   clear c6
   (first | rw [c6b0] | (simp only [i64_w, i32_w]; rw [c6b0]) | skip)
   have H' := Aside0.mk H
   clear H
   go_wp2
   go_meet
   case rel => exact ⟨_, (decide ((t367.length : Int) > 7)), (by first | rfl | (simp; done) | (simp [*]; done)), H', ⟨by first | omega | exact Nat.le_refl _⟩, ⟨by (with_reducible repeat (first | apply Kd.R_alloc | apply Kd.R_drewN | apply Kd.R_drew)); exact HO369.out⟩, ⟨by repeat (first | (with_reducible first | exact HB.out | apply below_alloc | apply pw_below_drewN | apply below_drew1) | exact HB.out)⟩⟩
 case rest =>
  clear HC3
  obtain ⟨kq, x16_2, rfl, HA, HJ2, HO_4, HB⟩ := hcut
  cases kq with
  | zero => exact absurd HA.out (by simp [gronx_Segments.j0])
  | succ kj2 =>
   have H := HA.out
   clear HA
   simp only [gronx_Segments.j0] at H
   by_cases c7 : x16_2 = true
   ·subst c7
    have H1 : ((errors_New.f (⟨#[101, 120, 112, 114, 32, 115, 104, 111, 117, 108, 100, 32, 99, 111, 110, 116, 97, 105, 110, 32, 53, 45, 55, 32, 115, 101, 103, 109, 101, 110, 116, 115, 32, 115, 101, 112, 97, 114, 97, 116, 101, 100, 32, 98, 121, 32, 115, 112, 97, 99, 101]⟩ : ByteArray)).bind fun t373 => (some ((([] : List ByteArray)), t373))) = some (r1, r2) := by rw [if_pos rfl] at H; exact H
    clear H
    have H := H1
    clear H1
    obtain ⟨y370, hy370⟩ : ∃ y_ : List ByteArray, y_ = (([] : List ByteArray)) := ⟨_, rfl⟩
    replace H : ((errors_New.f (⟨#[101, 120, 112, 114, 32, 115, 104, 111, 117, 108, 100, 32, 99, 111, 110, 116, 97, 105, 110, 32, 53, 45, 55, 32, 115, 101, 103, 109, 101, 110, 116, 115, 32, 115, 101, 112, 97, 114, 97, 116, 101, 100, 32, 98, 121, 32, 115, 112, 97, 99, 101]⟩ : ByteArray)).bind fun t373 => (some (y370, t373))) = some (r1, r2) := by first | (rw [hy370]; with_reducible exact H) | (have H2_ := (Option.bind_some _ _).symm.trans H; rw [hy370]; with_reducible exact H2_) | (have H2_ := (Option.bind_some _ _).symm.trans H; with_reducible exact H2_) | with_reducible exact H | (rw [hy370]; exact H) | exact H
    have Ny370 := Aside0.mk hy370
    clear hy370
    replace H := Option.bind_eq_some_iff.mp H
    obtain ⟨t373, A80, H⟩ := H
    replace H : (some (y370, t373)) = some (r1, r2) := H
    have A8 := Aside0.mk A80
    clear A80
    simp only [Option.some.injEq, Prod.mk.injEq] at H
    obtain ⟨rfl, rfl⟩ := H
    go_wp2_with (first | ((with_reducible refine gate_dst (N := 17) rfl ?_); refine Kd.R_lit Kd.string _ 9 ?hg (N := 17) ?hd (xs := ([] : List ByteArray)) (inner := []) (ok := fun _ => True) (okp := fun _ => True) ?hr ?hp (fun _ hk => hk) trivial (Below.refl _ _) (Nat.le_refl _) (by simp) ?_; (case hd => rfl); (case hg => rfl); (case hr => first | (go_simp; done) | (go_simp; rfl)); (case hp => exact (Reps.none _ _)); intro v371 w9 ho10 hb hg_ hnew_; clear hg_ hnew_; (first | rw [← Ny370.out] at ho10 | (simp only [Int.reduceToNat] at ho10; rw [← Ny370.out] at ho10)); have n0_ := Aside0.mk (Kd.R_elder' (by (with_reducible repeat (first | apply Kd.R_alloc | apply Kd.R_drewN | apply Kd.R_drew)); exact HO_4.out) (Kd.R_base ho10) hb); have n1_ := Aside0.mk (Kd.R_lower (Kd.R_new' ho10 (Kd.R_lt (by (with_reducible repeat (first | apply Kd.R_alloc | apply Kd.R_drewN | apply Kd.R_drew)); exact HO_4.out))) (below_size (by repeat (first | (with_reducible first | exact HB.out | apply below_alloc | apply pw_below_drewN | apply below_drew1) | exact HB.out)))); have n2_ := Aside0.mk (below_step (by repeat (first | (with_reducible first | exact HB.out | apply below_alloc | apply pw_below_drewN | apply below_drew1) | exact HB.out)) hb); clear HO_4; clear HB; have HO_4 := n0_; have HO372 := n1_; have HB := n2_; clear n0_ n1_ n2_; clear hb ho10) | ((with_reducible refine gate_callee (f := 47) rfl ?_); refine goesL_ (some 18) rfl rfl Tryz.func47 (by kernel_rfl) rfl #[.string (⟨#[101, 120, 112, 114, 32, 115, 104, 111, 117, 108, 100, 32, 99, 111, 110, 116, 97, 105, 110, 32, 53, 45, 55, 32, 115, 101, 103, 109, 101, 110, 116, 115, 32, 115, 101, 112, 97, 114, 97, 116, 101, 100, 32, 98, 121, 32, 115, 112, 97, 99, 101]⟩ : ByteArray)] rfl (by (try simp only [List.map_toArray, List.map_cons, List.map_nil]); first | done | rfl | (simp only [List.length_drop, List.length_take]; rfl)) ?_; (with_reducible refine (errors_New.calls (⟨#[101, 120, 112, 114, 32, 115, 104, 111, 117, 108, 100, 32, 99, 111, 110, 116, 97, 105, 110, 32, 53, 45, 55, 32, 115, 101, 103, 109, 101, 110, 116, 115, 32, 115, 101, 112, 97, 114, 97, 116, 101, 100, 32, 98, 121, 32, 115, 112, 97, 99, 101]⟩ : ByteArray) t373 _ A8.out).mono ?_); rintro e w11 ⟨rfl, hb⟩; refine ⟨_, rfl, ?_⟩; have n0_ := Aside0.mk (Kd.R_below (by (with_reducible repeat (first | apply Kd.R_alloc | apply Kd.R_drewN | apply Kd.R_drew)); exact HO_4.out) hb); have n1_ := Aside0.mk (Kd.R_below (by (with_reducible repeat (first | apply Kd.R_alloc | apply Kd.R_drewN | apply Kd.R_drew)); exact HO372.out) hb); have n2_ := Aside0.mk (below_step (by repeat (first | (with_reducible first | exact HB.out | apply below_alloc | apply pw_below_drewN | apply below_drew1) | exact HB.out)) hb); clear HO_4; clear HO372; clear HB; have HO_4 := n0_; have HO372 := n1_; have HB := n2_; clear n0_ n1_ n2_; (try clear hb); (try clear hb2); (try clear hk); (try clear hi); (try simp only [errW_none, errW_some])))
    go_ret2
    exact ⟨_, by first | rfl | (simp [errW_none, errW_some] <;> rfl) | (simp [*, errW_none, errW_some] <;> rfl), by (with_reducible repeat (first | apply Kd.R_alloc | apply Kd.R_drewN | apply Kd.R_drew)); exact Kd.R_mono HO372.out (fun _ hk => trivial), by repeat (first | (with_reducible first | exact HB.out | apply below_alloc | apply pw_below_drewN | apply below_drew1) | exact HB.out)⟩
   ·replace c7 := Bool.eq_false_iff.mpr c7
    subst c7
    have H1 : (if (t367.length : Int) = 5 then ((some (([(⟨#[48]⟩ : ByteArray)] : List ByteArray) : List ByteArray)).bind fun y374 => (if y374.length + t367.length < 8796093022208 then (some ((y374 ++ t367), none)) else (none))) else (if (t367.length : Int) = 6 then (if 5 < (t367.length : Int) then ((gronx_zzHasYear.f kj2 (rdOf ByteArray.empty t367 5)).bind fun t381 => (if t381 = true then ((some (([(⟨#[48]⟩ : ByteArray)] : List ByteArray) : List ByteArray)).bind fun y382 => (if y382.length + t367.length < 8796093022208 then (some ((y382 ++ t367), none)) else (none))) else (some (t367, none)))) else (none)) else (some (t367, none)))) = some (r1, r2) := by rw [if_neg (show ¬ (false = true) by decide)] at H; exact H
    clear H
    have H := H1
    clear H1
    by_cases c12 : (t367.length : Int) = 5
    ·rw [if_pos c12] at H
     have c12b0 : ((t367.length : Int) == 5) = true := beq_iff_eq.mpr c12
     have c12b1 : ((t367.length : Int) != 5) = false := bne_eq_false_iff_eq.mpr c12
     clear c12
     obtain ⟨y374, hy374⟩ : ∃ y_ : List ByteArray, y_ = (([(⟨#[48]⟩ : ByteArray)] : List ByteArray)) := ⟨_, rfl⟩
     replace H : (if y374.length + t367.length < 8796093022208 then (some ((y374 ++ t367), none)) else (none)) = some (r1, r2) := by first | (rw [hy374]; with_reducible exact H) | (have H2_ := (Option.bind_some _ _).symm.trans H; rw [hy374]; with_reducible exact H2_) | (have H2_ := (Option.bind_some _ _).symm.trans H; with_reducible exact H2_) | with_reducible exact H | (rw [hy374]; exact H) | exact H
     have Ny374 := Aside0.mk hy374
     clear hy374
     by_cases c13 : y374.length + t367.length < 8796093022208
     ·rw [if_pos c13] at H
      have LMc13 := Aside0.mk c13
      clear c13
      obtain ⟨y377, hy377⟩ : ∃ y_ : List ByteArray, y_ = (y374 ++ t367) := ⟨_, rfl⟩
      replace H : (some (y377, none)) = some (r1, r2) := by first | (rw [hy377]; with_reducible exact H) | (have H2_ := (Option.bind_some _ _).symm.trans H; rw [hy377]; with_reducible exact H2_) | (have H2_ := (Option.bind_some _ _).symm.trans H; with_reducible exact H2_) | with_reducible exact H | (rw [hy377]; exact H) | exact H
      have Ny377 := Aside0.mk hy377
      clear hy377
      simp only [Option.some.injEq, Prod.mk.injEq] at H
      obtain ⟨rfl, rfl⟩ := H
      go_wp2_with (first | ((with_reducible refine gate_dst (N := 32) rfl ?_); refine Kd.R_lit Kd.string _ 9 ?hg (N := 32) ?hd (xs := ([(⟨#[48]⟩ : ByteArray)] : List ByteArray)) (inner := [.string (⟨#[48]⟩ : ByteArray)]) (ok := fun _ => True) (okp := fun _ => True) ?hr ?hp (fun _ hk => hk) trivial (Below.refl _ _) (Nat.le_refl _) (by simp) ?_; (case hd => rfl); (case hg => rfl); (case hr => first | (go_simp; done) | (go_simp; rfl)); (case hp => exact (Reps.one (show Kd.M Kd.string _ _ _ (⟨#[48]⟩ : ByteArray) [.string (⟨#[48]⟩ : ByteArray)] from rfl) (Reps.none _ _))); intro v375 w14 ho15 hb hg_ hnew_; clear hg_ hnew_; (first | rw [← Ny374.out] at ho15 | (simp only [Int.reduceToNat] at ho15; rw [← Ny374.out] at ho15)); have n0_ := Aside0.mk (Kd.R_elder' (by (with_reducible repeat (first | apply Kd.R_alloc | apply Kd.R_drewN | apply Kd.R_drew)); exact HO_4.out) (Kd.R_base ho15) hb); have n1_ := Aside0.mk (Kd.R_lower (Kd.R_new' ho15 (Kd.R_lt (by (with_reducible repeat (first | apply Kd.R_alloc | apply Kd.R_drewN | apply Kd.R_drew)); exact HO_4.out))) (below_size (by repeat (first | (with_reducible first | exact HB.out | apply below_alloc | apply pw_below_drewN | apply below_drew1) | exact HB.out)))); have n2_ := Aside0.mk (below_step (by repeat (first | (with_reducible first | exact HB.out | apply below_alloc | apply pw_below_drewN | apply below_drew1) | exact HB.out)) hb); clear HO_4; clear HB; have HO_4 := n0_; have HO376 := n1_; have HB := n2_; clear n0_ n1_ n2_; clear hb ho15) | ((with_reducible refine gate_builtin (b := .append) (xs := #[.tmp 32, .tmp 33]) rfl ?_); at_builtin; refine Kd.R_append_rows Kd.string (w0 := w) w.heap.size rfl (.tmp 32) (.tmp 33) 55 9 (.string ⟨#[]⟩) 16 rfl Tryz.underlying55 info9 rfl (by decide) (by omega) v375 y374 t367 _ _ _ (fun k_ => some k_ ≠ (.slice Ao5 t367.length co5 : Value).ownBlock) (fun _ => False) rfl rfl ?aO ?aR (fun _ _ h => h) (fun _ h => h.elim) ?aF ?aB ?aS ?aL ?_; (case aR => repeat (first | exact (Kd.R_reads' HO_4.out).2.2 | (with_reducible refine Kd.C_alloc ?_ _) | (with_reducible refine Kd.C_drewN ?_ _) | (with_reducible refine Kd.C_drew ?_))); (case aB => exact (by repeat (first | (with_reducible first | exact HB.out | apply below_alloc | apply pw_below_drewN | apply below_drew1) | exact HB.out))); (case aF => exact (fun k_ hk => Kd.fresh' (Kd.R_lt (by (with_reducible repeat (first | apply Kd.R_alloc | apply Kd.R_drewN | apply Kd.R_drew)); exact HO_4.out)) k_ hk)); (case aO => exact (by (with_reducible repeat (first | apply Kd.R_alloc | apply Kd.R_drewN | apply Kd.R_drew)); exact Kd.R_mono HO376.out (fun _ hk => hk.2))); (case aS => exact (below_size (by repeat (first | (with_reducible first | exact HB.out | apply below_alloc | apply pw_below_drewN | apply below_drew1) | exact HB.out)))); (case aL => have := LMc13.out; omega); intro v378 w16 ho hb hg hat; rw [← Ny377.out] at ho; have n0_ := Aside0.mk (Kd.R_after (ok := (fun _ => True)) (by (with_reducible repeat (first | apply Kd.R_alloc | apply Kd.R_drewN | apply Kd.R_drew)); exact HO_4.out) hg hat); have n1_ := Aside0.mk (hb); have n2_ := Aside0.mk (ho); clear HO_4; clear HB; clear HO376; have HO_4 := n0_; have HB := n1_; have HO379 := n2_; clear n0_ n1_ n2_; clear ho hb hg hat))
      go_ret2
      exact ⟨_, by first | rfl | (simp [errW_none, errW_some] <;> rfl) | (simp [*, errW_none, errW_some] <;> rfl), by (with_reducible repeat (first | apply Kd.R_alloc | apply Kd.R_drewN | apply Kd.R_drew)); exact Kd.R_mono HO379.out (fun _ hk => trivial), by repeat (first | (with_reducible first | exact HB.out | apply below_alloc | apply pw_below_drewN | apply below_drew1) | exact HB.out)⟩
     ·rw [if_neg c13] at H
      exact absurd H (by simp)
    ·rw [if_neg c12] at H
     have c12b0 : ((t367.length : Int) == 5) = false := beq_eq_false_iff_ne.mpr c12
     have c12b1 : ((t367.length : Int) != 5) = true := bne_iff_ne.mpr c12
     by_cases c17 : (t367.length : Int) = 6
     ·rw [if_pos c17] at H
      have c17b0 : ((t367.length : Int) == 6) = true := beq_iff_eq.mpr c17
      have c17b1 : ((t367.length : Int) != 6) = false := bne_eq_false_iff_eq.mpr c17
      clear c17
      by_cases c18 : 5 < (t367.length : Int)
      ·rw [if_pos c18] at H
       have c18b0 : decide (5 < (t367.length : Int)) = true := decide_eq_true c18
       have c18b1 : decide (5 < t367.length) = true := decide_eq_true (by omega)
       clear c18
       replace H := Option.bind_eq_some_iff.mp H
       obtain ⟨t381, A190, H⟩ := H
       replace H : (if t381 = true then ((some (([(⟨#[48]⟩ : ByteArray)] : List ByteArray) : List ByteArray)).bind fun y382 => (if y382.length + t367.length < 8796093022208 then (some ((y382 ++ t367), none)) else (none))) else (some (t367, none))) = some (r1, r2) := H
       have A19 := Aside0.mk A190
       clear A190
       by_cases c20 : t381 = true
       ·subst c20
        have H1 : ((some (([(⟨#[48]⟩ : ByteArray)] : List ByteArray) : List ByteArray)).bind fun y382 => (if y382.length + t367.length < 8796093022208 then (some ((y382 ++ t367), none)) else (none))) = some (r1, r2) := by rw [if_pos rfl] at H; exact H
        clear H
        have H := H1
        clear H1
        obtain ⟨y382, hy382⟩ : ∃ y_ : List ByteArray, y_ = (([(⟨#[48]⟩ : ByteArray)] : List ByteArray)) := ⟨_, rfl⟩
        replace H : (if y382.length + t367.length < 8796093022208 then (some ((y382 ++ t367), none)) else (none)) = some (r1, r2) := by first | (rw [hy382]; with_reducible exact H) | (have H2_ := (Option.bind_some _ _).symm.trans H; rw [hy382]; with_reducible exact H2_) | (have H2_ := (Option.bind_some _ _).symm.trans H; with_reducible exact H2_) | with_reducible exact H | (rw [hy382]; exact H) | exact H
        have Ny382 := Aside0.mk hy382
        clear hy382
        by_cases c21 : y382.length + t367.length < 8796093022208
        ·rw [if_pos c21] at H
         have LMc21 := Aside0.mk c21
         clear c21
         obtain ⟨y385, hy385⟩ : ∃ y_ : List ByteArray, y_ = (y382 ++ t367) := ⟨_, rfl⟩
         replace H : (some (y385, none)) = some (r1, r2) := by first | (rw [hy385]; with_reducible exact H) | (have H2_ := (Option.bind_some _ _).symm.trans H; rw [hy385]; with_reducible exact H2_) | (have H2_ := (Option.bind_some _ _).symm.trans H; with_reducible exact H2_) | with_reducible exact H | (rw [hy385]; exact H) | exact H
         have Ny385 := Aside0.mk hy385
         clear hy385
         simp only [Option.some.injEq, Prod.mk.injEq] at H
         obtain ⟨rfl, rfl⟩ := H
         have p380 : 0 ≤ (5 : Int) := (by omega)
         have q380 : 5 < (t367.length : Int) := of_decide_eq_true (by first | (with_reducible assumption) | assumption)
         obtain ⟨ad380, e380, hx380_0⟩ := Kd.at_string (Kd.R_reads' HO_4.out).2.2 5 p380 q380
         cases e380
         (try simp only [show (5 : Int).toNat = 5 from rfl, Nat.reduceMul, Nat.reduceEqDiff, Go.Addr.add, ↓reduceIte] at hx380_0)
         have qi380 : (5 < t367.length) = True := eq_true (by omega)
         (try rw [show ((5 : Int)).toNat = 5 from rfl] at hx380_0)
         replace p380 := eq_true p380
         replace q380 := eq_true q380
         go_wp2_with (first | (go_at_call 48; (with_reducible refine (gronx_zzHasYear.calls kj2 (rdOf ByteArray.empty t367 5) true _ A19.out).mono ?_); rintro e w' ⟨rfl, ⟨nd, rfl⟩⟩) | ((with_reducible refine gate_dst (N := 32) rfl ?_); refine Kd.R_lit Kd.string _ 9 ?hg (N := 32) ?hd (xs := ([(⟨#[48]⟩ : ByteArray)] : List ByteArray)) (inner := [.string (⟨#[48]⟩ : ByteArray)]) (ok := fun _ => True) (okp := fun _ => True) ?hr ?hp (fun _ hk => hk) trivial (Below.refl _ _) (Nat.le_refl _) (by simp) ?_; (case hd => rfl); (case hg => rfl); (case hr => first | (go_simp; done) | (go_simp; rfl)); (case hp => exact (Reps.one (show Kd.M Kd.string _ _ _ (⟨#[48]⟩ : ByteArray) [.string (⟨#[48]⟩ : ByteArray)] from rfl) (Reps.none _ _))); intro v383 w22 ho23 hb hg_ hnew_; clear hg_ hnew_; (first | rw [← Ny382.out] at ho23 | (simp only [Int.reduceToNat] at ho23; rw [← Ny382.out] at ho23)); have n0_ := Aside0.mk (Kd.R_elder' (by (with_reducible repeat (first | apply Kd.R_alloc | apply Kd.R_drewN | apply Kd.R_drew)); exact HO_4.out) (Kd.R_base ho23) hb); have n1_ := Aside0.mk (Kd.R_lower (Kd.R_new' ho23 (Kd.R_lt (by (with_reducible repeat (first | apply Kd.R_alloc | apply Kd.R_drewN | apply Kd.R_drew)); exact HO_4.out))) (below_size (by repeat (first | (with_reducible first | exact HB.out | apply below_alloc | apply pw_below_drewN | apply below_drew1) | exact HB.out)))); have n2_ := Aside0.mk (below_step (by repeat (first | (with_reducible first | exact HB.out | apply below_alloc | apply pw_below_drewN | apply below_drew1) | exact HB.out)) hb); clear HO_4; clear HB; have HO_4 := n0_; have HO384 := n1_; have HB := n2_; clear n0_ n1_ n2_; clear hb ho23) | ((with_reducible refine gate_builtin (b := .append) (xs := #[.tmp 32, .tmp 33]) rfl ?_); at_builtin; refine Kd.R_append_rows Kd.string (w0 := w) w.heap.size rfl (.tmp 32) (.tmp 33) 55 9 (.string ⟨#[]⟩) 16 rfl Tryz.underlying55 info9 rfl (by decide) (by omega) v383 y382 t367 _ _ _ (fun k_ => some k_ ≠ (.slice (some ad380) t367.length co5 : Value).ownBlock) (fun _ => False) rfl rfl ?aO ?aR (fun _ _ h => h) (fun _ h => h.elim) ?aF ?aB ?aS ?aL ?_; (case aR => repeat (first | exact (Kd.R_reads' HO_4.out).2.2 | (with_reducible refine Kd.C_alloc ?_ _) | (with_reducible refine Kd.C_drewN ?_ _) | (with_reducible refine Kd.C_drew ?_))); (case aB => exact (by repeat (first | (with_reducible first | exact HB.out | apply below_alloc | apply pw_below_drewN | apply below_drew1) | exact HB.out))); (case aF => exact (fun k_ hk => Kd.fresh' (Kd.R_lt (by (with_reducible repeat (first | apply Kd.R_alloc | apply Kd.R_drewN | apply Kd.R_drew)); exact HO_4.out)) k_ hk)); (case aO => exact (by (with_reducible repeat (first | apply Kd.R_alloc | apply Kd.R_drewN | apply Kd.R_drew)); exact Kd.R_mono HO384.out (fun _ hk => hk.2))); (case aS => exact (below_size (by repeat (first | (with_reducible first | exact HB.out | apply below_alloc | apply pw_below_drewN | apply below_drew1) | exact HB.out)))); (case aL => have := LMc21.out; omega); intro v386 w24 ho hb hg hat; rw [← Ny385.out] at ho; have n0_ := Aside0.mk (Kd.R_after (ok := (fun _ => True)) (by (with_reducible repeat (first | apply Kd.R_alloc | apply Kd.R_drewN | apply Kd.R_drew)); exact HO_4.out) hg hat); have n1_ := Aside0.mk (hb); have n2_ := Aside0.mk (ho); clear HO_4; clear HB; clear HO384; have HO_4 := n0_; have HB := n1_; have HO387 := n2_; clear n0_ n1_ n2_; clear ho hb hg hat))
         go_ret2
         exact ⟨_, by first | rfl | (simp [errW_none, errW_some] <;> rfl) | (simp [*, errW_none, errW_some] <;> rfl), by (with_reducible repeat (first | apply Kd.R_alloc | apply Kd.R_drewN | apply Kd.R_drew)); exact Kd.R_mono HO387.out (fun _ hk => trivial), by repeat (first | (with_reducible first | exact HB.out | apply below_alloc | apply pw_below_drewN | apply below_drew1) | exact HB.out)⟩
        ·rw [if_neg c21] at H
         exact absurd H (by simp)
       ·replace c20 := Bool.eq_false_iff.mpr c20
        subst c20
        have H1 : (some (t367, none)) = some (r1, r2) := by rw [if_neg (show ¬ (false = true) by decide)] at H; exact H
        clear H
        have H := H1
        clear H1
        simp only [Option.some.injEq, Prod.mk.injEq] at H
        obtain ⟨rfl, rfl⟩ := H
        have p380 : 0 ≤ (5 : Int) := (by omega)
        have q380 : 5 < (t367.length : Int) := of_decide_eq_true (by first | (with_reducible assumption) | assumption)
        obtain ⟨ad380, e380, hx380_0⟩ := Kd.at_string (Kd.R_reads' HO_4.out).2.2 5 p380 q380
        cases e380
        (try simp only [show (5 : Int).toNat = 5 from rfl, Nat.reduceMul, Nat.reduceEqDiff, Go.Addr.add, ↓reduceIte] at hx380_0)
        have qi380 : (5 < t367.length) = True := eq_true (by omega)
        (try rw [show ((5 : Int)).toNat = 5 from rfl] at hx380_0)
        replace p380 := eq_true p380
        replace q380 := eq_true q380
        go_wp2_with (first | (go_at_call 48; (with_reducible refine (gronx_zzHasYear.calls kj2 (rdOf ByteArray.empty t367 5) false _ A19.out).mono ?_); rintro e w' ⟨rfl, ⟨nd, rfl⟩⟩))
        go_ret2
        exact ⟨_, by first | rfl | (simp [errW_none, errW_some] <;> rfl) | (simp [*, errW_none, errW_some] <;> rfl), by (with_reducible repeat (first | apply Kd.R_alloc | apply Kd.R_drewN | apply Kd.R_drew)); exact HO_4.out, by repeat (first | (with_reducible first | exact HB.out | apply below_alloc | apply pw_below_drewN | apply below_drew1) | exact HB.out)⟩
      ·rw [if_neg c18] at H
       exact absurd H (by simp)
     ·rw [if_neg c17] at H
      have c17b0 : ((t367.length : Int) == 6) = false := beq_eq_false_iff_ne.mpr c17
      have c17b1 : ((t367.length : Int) != 6) = true := bne_iff_ne.mpr c17
      simp only [Option.some.injEq, Prod.mk.injEq] at H
      obtain ⟨rfl, rfl⟩ := H
      go_wp2
      go_ret2
      exact ⟨_, by first | rfl | (simp [errW_none, errW_some] <;> rfl) | (simp [*, errW_none, errW_some] <;> rfl), by (with_reducible repeat (first | apply Kd.R_alloc | apply Kd.R_drewN | apply Kd.R_drew)); exact HO_4.out, by repeat (first | (with_reducible first | exact HB.out | apply below_alloc | apply pw_below_drewN | apply below_drew1) | exact HB.out)⟩
end Go.Proofs.YtemgofomhjabpaaGreatDoor.Core
namespace Go.Proofs.YtemgofomhjabpaaGreatDoor.Core
open Go.RowKit Go.Proofs.YtemgofomhjabpaaGreatDoorW.PrintWords
def SegA (x : Int) (seg : ByteArray) (pos : Nat) (b er : Bool) : Prop := ∀ (c : Nat) (w : World), w.cell? ⟨c, 0, none⟩ = some (.int .u64 0) → w.cell? ⟨c, 1, none⟩ = some (.int .i64 x) → w.cell? ⟨c, 2, none⟩ = some (.pointer none) →
  Calls Tryz.prog 111 #[.pointer (some ⟨c, 0, none⟩), .string seg, .int .i64 (pos : Int)] w fun e w' => ∃ ev, e = .returned (.tuple #[.bool b, ev]) ∧ ErrV er ev ∧ Below w.heap.size w w'
theorem segA_of {x y mo d h mi s : Int} (M : Moment' x y mo d h mi s) (seg : ByteArray) (pos : Nat) (hp : pos < 7) (k : Nat) (offs : List ByteArray) (hs : gronx_zzSplit.f k seg ⟨#[44]⟩ = some offs) (hn : offs.length < 1000000)
  (hm : pos = 3 ∨ pos = 5 → ∀ o ∈ offs, gronx_zzContainsAny.f k o ⟨#[76, 87, 35]⟩ = some false) (b er : Bool) (hD : ∀ c, DueL c (posV y mo d h mi s pos) pos offs b er) : SegA x seg pos b er := by
 intro c w h0 h1 h2
 by_cases h3 : pos = 3
 ·exact ck_three c M seg pos hp h3 k offs hs hn (hm (.inl h3)) b er (hD c) w h0 h1 h2
 ·by_cases h5 : pos = 5
  ·exact ck_five c M seg pos hp h5 k offs hs hn (hm (.inr h5)) b er (hD c) w h0 h1 h2
  ·exact ck_other c M seg pos hp h3 h5 k offs hs hn b er (hD c) w h0 h1 h2
theorem new_w (w : World) : Calls Tryz.prog 31 #[] w fun e w' => e = .returned (.pointer (some ⟨w.heap.size + 1, 0, none⟩)) ∧ (w.alloc (.cells #[.int .u64 0, .int .i64 0, .pointer none] 94)).alloc (.cells #[.iface 92 (.pointer (some ⟨w.heap.size, 0, none⟩))] 98) = w' := by
 go_enter Tryz.func31, Tryz.ntmps31
 go_wp2
 go_ret
 exact ⟨rfl, rfl⟩
theorem setRef_w (c : Nat) (x : Int) (w : World) (v0 v1 v2 : Value) (h0 : w.cell? ⟨c, 0, none⟩ = some v0) (h1 : w.cell? ⟨c, 1, none⟩ = some v1) (h2 : w.cell? ⟨c, 2, none⟩ = some v2) (f0 : w.frozen? ⟨c, 0, none⟩ = false) (f1 : w.frozen? ⟨c, 1, none⟩ = false) (f2 : w.frozen? ⟨c, 2, none⟩ = false) :
  Calls Tryz.prog 113 #[.pointer (some ⟨c, 0, none⟩), .agg #[.int .u64 0, .int .i64 x, .pointer none]] w fun e w' => e = .returned (.tuple #[]) ∧
   ((((w.alloc (.cells #[.int .u64 0, .int .i64 x, .pointer none] 79)).setCell ⟨c, 0, none⟩ (.int .u64 0)).setCell ⟨c, 1, none⟩ (.int .i64 x)).setCell ⟨c, 2, none⟩ (.pointer none)) = w' := by
 have hc : c < w.heap.size := World.block_lt_of_cell? w ⟨c, 0, none⟩ h0
 have hne : c ≠ w.heap.size := Nat.ne_of_lt hc
 have hne' : w.heap.size ≠ c := Nat.ne_of_gt hc
 go_enter Tryz.func113, Tryz.ntmps113
 go_wp2
 go_end0
 exact ⟨rfl, by go_simp⟩
end Go.Proofs.YtemgofomhjabpaaGreatDoor.Core
namespace Go.Proofs.YtemgofomhjabpaaGreatDoor.Core
open Go.RowKit
theorem nil_setRef (w : World) (C : Addr) : (nilAhead 362 92 (.pointer (some C)) "SetRef").run Tryz.prog w = .ok (some false) w := by kernel_rfl
theorem m_setRef (w : World) (C : Addr) : (method 362 92 (.pointer (some C)) "SetRef").run Tryz.prog w = .ok (113, .pointer (some C)) w := by kernel_rfl
theorem nil_check (w : World) (C : Addr) : (nilAhead 362 92 (.pointer (some C)) "CheckDue").run Tryz.prog w = .ok (some false) w := by kernel_rfl
theorem m_check (w : World) (C : Addr) : (method 362 92 (.pointer (some C)) "CheckDue").run Tryz.prog w = .ok (111, .pointer (some C)) w := by kernel_rfl
end Go.Proofs.YtemgofomhjabpaaGreatDoor.Core
namespace Go.Proofs.YtemgofomhjabpaaGreatDoor.Core
open Go.RowKit Go.Proofs.YtemgofomhjabpaaGreatDoorW.PrintWords
def SD (G C R : Nat) (x : Int) (w' : World) : Prop := w'.cell? ⟨G, 0, none⟩ = some (.iface 92 (.pointer (some ⟨C, 0, none⟩))) ∧ w'.cell? ⟨R, 0, none⟩ = some (.int .u64 0) ∧ w'.cell? ⟨R, 1, none⟩ = some (.int .i64 x) ∧ w'.cell? ⟨R, 2, none⟩ = some (.pointer none)
theorem SD.set {G C R j : Nat} {x : Int} {w : World} {v : Value} (hCG : C ≠ G) (hCR : C ≠ R) (h : SD G C R x w) : SD G C R x (w.setCell ⟨C, j, none⟩ v) :=
 ⟨(set_other (fun h => hCG (congrArg Addr.block h))).trans h.1, (set_other (fun h => hCR (congrArg Addr.block h))).trans h.2.1, (set_other (fun h => hCR (congrArg Addr.block h))).trans h.2.2.1, (set_other (fun h => hCR (congrArg Addr.block h))).trans h.2.2.2⟩
theorem SD.alloc {G C R : Nat} {x : Int} {w : World} (o : Obj) (h : SD G C R x w) : SD G C R x (w.alloc o) :=
 have hb : Below w.heap.size w (w.alloc o) := (Below.refl _ _).alloc (Nat.le_refl _) o
 ⟨cell_after hb h.1, cell_after hb h.2.1, cell_after hb h.2.2.1, cell_after hb h.2.2.2⟩
theorem set_alloc {w : World} {B C G : Nat} {x : Int} {v0 v1 v2 vg : Value} (hg : w.cell? ⟨G, 0, none⟩ = some vg) (h0 : w.cell? ⟨C, 0, none⟩ = some v0) (h1 : w.cell? ⟨C, 1, none⟩ = some v1) (h2 : w.cell? ⟨C, 2, none⟩ = some v2) (hCG : C ≠ G) (hB : B ≤ C) :
  (((((w.alloc (.cells #[.int .u64 0, .int .i64 x, .pointer none] 79)).setCell ⟨C, 0, none⟩ (.int .u64 0)).setCell ⟨C, 1, none⟩ (.int .i64 x)).setCell ⟨C, 2, none⟩ (.pointer none)).drew).cell? ⟨G, 0, none⟩ = some vg ∧ (((((w.alloc (.cells #[.int .u64 0, .int .i64 x, .pointer none] 79)).setCell ⟨C, 0, none⟩ (.int .u64 0)).setCell ⟨C, 1, none⟩ (.int .i64 x)).setCell ⟨C, 2, none⟩ (.pointer none)).drew).cell? ⟨C, 0, none⟩ = some (.int .u64 0) ∧ (((((w.alloc (.cells #[.int .u64 0, .int .i64 x, .pointer none] 79)).setCell ⟨C, 0, none⟩ (.int .u64 0)).setCell ⟨C, 1, none⟩ (.int .i64 x)).setCell ⟨C, 2, none⟩ (.pointer none)).drew).cell? ⟨C, 1, none⟩ = some (.int .i64 x) ∧ (((((w.alloc (.cells #[.int .u64 0, .int .i64 x, .pointer none] 79)).setCell ⟨C, 0, none⟩ (.int .u64 0)).setCell ⟨C, 1, none⟩ (.int .i64 x)).setCell ⟨C, 2, none⟩ (.pointer none)).drew).cell? ⟨C, 2, none⟩ = some (.pointer none) ∧ Below B w (((((w.alloc (.cells #[.int .u64 0, .int .i64 x, .pointer none] 79)).setCell ⟨C, 0, none⟩ (.int .u64 0)).setCell ⟨C, 1, none⟩ (.int .i64 x)).setCell ⟨C, 2, none⟩ (.pointer none)).drew) ∧ B ≤ (((((w.alloc (.cells #[.int .u64 0, .int .i64 x, .pointer none] 79)).setCell ⟨C, 0, none⟩ (.int .u64 0)).setCell ⟨C, 1, none⟩ (.int .i64 x)).setCell ⟨C, 2, none⟩ (.pointer none)).drew).heap.size := by
 have hCs : C < w.heap.size := World.block_lt_of_cell? w ⟨C, 0, none⟩ h0
 have hb : Below w.heap.size w (w.alloc (.cells #[.int .u64 0, .int .i64 x, .pointer none] 79)) := (Below.refl w.heap.size w).alloc (Nat.le_refl _) _
 obtain ⟨q0, q1, q2⟩ := set3 (a := .int .u64 0) (b := .int .i64 x) (c := .pointer none) (cell_after hb h0) (cell_after hb h1) (cell_after hb h2)
 have q3 := (set_other (v := .pointer none) (b := ⟨G, 0, none⟩) (a := ⟨C, 2, none⟩) (fun h => hCG (congrArg Addr.block h))).trans ((set_other (v := .int .i64 x) (a := ⟨C, 1, none⟩) (fun h => hCG (congrArg Addr.block h))).trans ((set_other (v := .int .u64 0) (a := ⟨C, 0, none⟩) (fun h => hCG (congrArg Addr.block h))).trans (cell_after hb hg)))
 have hBB : Below B w (((((w.alloc (.cells #[.int .u64 0, .int .i64 x, .pointer none] 79)).setCell ⟨C, 0, none⟩ (.int .u64 0)).setCell ⟨C, 1, none⟩ (.int .i64 x)).setCell ⟨C, 2, none⟩ (.pointer none)).drew) := ((((hb.mono (Nat.le_trans hB (Nat.le_of_lt hCs))).setCell hB _).setCell hB _).setCell hB _).drew
 exact ⟨q3, q0, q1, q2, hBB, Nat.le_trans (Nat.le_trans hB (Nat.le_of_lt hCs)) hBB.size⟩
def IsStar (s : ByteArray) : Prop := s = ⟨#[42]⟩ ∨ s = ⟨#[63]⟩
theorem toList_ne {s t : ByteArray} (h : s ≠ t) : s.toList ≠ t.toList := fun e => h (by
 have : s.data.toList = t.data.toList := by rw [← Lib.toList_data, ← Lib.toList_data, e]
 cases s; cases t; simp at this; rw [this])
end Go.Proofs.YtemgofomhjabpaaGreatDoor.Core
namespace Go.Proofs.YtemgofomhjabpaaGreatDoor.Core
open Go.RowKit
theorem calls_one {P : Program} {f : FuncId} {args : Array Value} {w : World} {r r' : Value} {R R' : World → Prop} (h : Calls P f args w fun e w' => e = .returned r ∧ R w') (h' : Calls P f args w fun e w' => e = .returned r' ∧ R' w') (hi : P.inits.idxOf? f = none) : r = r' := by
 have g : ∀ {q : Value} {Q : World → Prop}, Calls P f args w (fun e w' => e = .returned q ∧ Q w') → Calls P f args w fun | .returned v, w' => v = q ∧ w' = w' | _, _ => False :=
  fun h => h.mono fun e w' h => by obtain ⟨rfl, _⟩ := h; exact ⟨rfl, rfl⟩
 obtain ⟨n, v, w1, e1, r1, _⟩ := (g h).done hi
 obtain ⟨m, v', w2, e2, r2, _⟩ := (g h').done hi
 have := runN_same_end e1 e2
 injection this with hv
 rw [← r1, ← r2, hv]
end Go.Proofs.YtemgofomhjabpaaGreatDoor.Core
namespace Go.Proofs.YtemgofomhjabpaaGreatDoor.Core
open Go.RowKit Go.Proofs.YtemgofomhjabpaaGreatDoorW.PrintWords
def DueF (x : Int) : Nat → List ByteArray → Bool → Prop
 | _, [], r => r = true
 | p, s :: t, r => (IsStar s ∧ DueF x (p + 1) t r) ∨ (s ≠ ⟨#[42]⟩ ∧ s ≠ ⟨#[63]⟩ ∧ ∃ b, SegA x s p b false ∧ (if b = true then DueF x (p + 1) t r else r = false))
theorem SegA.one {x : Int} {seg : ByteArray} {pos : Nat} {b b' : Bool} (h : SegA x seg pos b false) (h' : SegA x seg pos b' false) : b = b' := by
 have g : ∀ {b : Bool}, SegA x seg pos b false → Calls Tryz.prog 111 #[.pointer (some ⟨(default : World).heap.size, 0, none⟩), .string seg, .int .i64 (pos : Int)] ((default : World).alloc (.cells #[.int .u64 0, .int .i64 x, .pointer none] 79)) fun e w' => e = .returned (.tuple #[.bool b, .nilIface]) ∧ True := fun h =>
  (h (default : World).heap.size ((default : World).alloc (.cells #[.int .u64 0, .int .i64 x, .pointer none] 79)) (by simp [go_sem]) (by simp [go_sem]) (by simp [go_sem])).mono fun e w' h => by
   obtain ⟨ev, rfl, hev, _⟩ := h
   obtain rfl := ErrV.nil hev
   exact ⟨rfl, trivial⟩
 have e := calls_one (R := fun _ => True) (R' := fun _ => True) (g h) (g h') (by kernel_rfl)
 injection e with e
 simpa using e
theorem DueF.one {x : Int} : ∀ {p : Nat} {l : List ByteArray} {r r' : Bool}, DueF x p l r → DueF x p l r' → r = r'
 | _, [], _, _, h, h' => h.trans h'.symm
 | p, s :: t, r, r', h, h' => by
  rcases h with ⟨hs, h⟩ | ⟨n1, n2, b, hA, h⟩
  ·rcases h' with ⟨_, h'⟩ | ⟨n1, n2, _⟩
   ·exact DueF.one h h'
   ·rcases hs with e | e
    ·exact absurd e n1
    ·exact absurd e n2
  ·rcases h' with ⟨hs, _⟩ | ⟨_, _, b', hA', h'⟩
   ·rcases hs with e | e
    ·exact absurd e n1
    ·exact absurd e n2
   ·obtain rfl := SegA.one hA hA'
    cases b with
    | true => exact DueF.one (by simpa using h) (by simpa using h')
    | false =>
     have e1 : r = false := by simpa using h
     have e2 : r' = false := by simpa using h'
     rw [e1, e2]
open Classical in
noncomputable def dueT (y mo d h mi s : Int) (t : ByteArray) : Bool := decide (∃ k segs, gronx_Segments.f k t = some (segs, none) ∧ DueF (extOf y mo d h mi s) 0 segs true)
theorem segs_one {k k' : Nat} {t : ByteArray} {S S' : List ByteArray × Option Int} (h : gronx_Segments.f k t = some S) (h' : gronx_Segments.f k' t = some S') : S = S' := by
 have a := at_rounds (g := fun k => gronx_Segments.f k t) (fun k => gronx_Segments.mono t k) (Nat.le_max_left k k') h
 have b := at_rounds (g := fun k => gronx_Segments.f k t) (fun k => gronx_Segments.mono t k) (Nat.le_max_right k k') h'
 exact Option.some.inj (a.symm.trans b)
open Classical in
theorem dueT_eq {y mo d h mi s : Int} {t : ByteArray} {k : Nat} {segs : List ByteArray} {r : Bool} (hS : gronx_Segments.f k t = some (segs, none)) (hD : DueF (extOf y mo d h mi s) 0 segs r) : dueT y mo d h mi s t = r := by
 unfold dueT
 cases r with
 | true => exact decide_eq_true ⟨k, segs, hS, hD⟩
 | false =>
  refine decide_eq_false fun ⟨k', segs', hS', hD'⟩ => ?_
  have e := segs_one hS hS'
  cases e
  exact absurd (DueF.one hD hD') (by simp)
def BatchC (T : List ByteArray) (y mo d h mi s : Int) (due fine : List Bool) : Prop := ∀ (A : Option Addr) (c : Nat) (w : World), Kd.C Kd.string w A T.length T → T.length ≤ c →
  Calls Tryz.prog 29 #[.slice A T.length c, .agg #[.int .i64 y, .int .i64 mo, .int .i64 d, .int .i64 h, .int .i64 mi, .int .i64 s]] w fun e w' => ∃ v0_ v1_ : Value, e = .returned (.tuple #[v0_, v1_]) ∧ Kd.R Kd.bool 4 w' w.heap.size (fun k_ => some k_ ≠ (v1_ : Value).ownBlock) v0_ due ∧ Kd.R Kd.bool 4 w' w.heap.size (fun k_ => some k_ ≠ (v0_ : Value).ownBlock) v1_ fine ∧ Below w.heap.size w w'
open Classical in
noncomputable def impl_Batch.f (T : List ByteArray) (y mo d h mi s : Int) : Option (List Bool × List Bool) :=
 if BatchC T y mo d h mi s (T.map (dueT y mo d h mi s)) (T.map fun _ => true) then some (T.map (dueT y mo d h mi s), T.map fun _ => true) else none
theorem impl_Batch.calls (A : Option Addr) (c : Nat) (T : List ByteArray) (y mo d h mi s : Int) (r1 r2 : List Bool) (w : World) (hC : Kd.C Kd.string w A T.length T) (hl : T.length ≤ c) (hf : impl_Batch.f T y mo d h mi s = some (r1, r2)) :
  Calls Tryz.prog 29 #[.slice A T.length c, .agg #[.int .i64 y, .int .i64 mo, .int .i64 d, .int .i64 h, .int .i64 mi, .int .i64 s]] w fun e w' => ∃ v0_ v1_ : Value, e = .returned (.tuple #[v0_, v1_]) ∧ Kd.R Kd.bool 4 w' w.heap.size (fun k_ => some k_ ≠ (v1_ : Value).ownBlock) v0_ r1 ∧ Kd.R Kd.bool 4 w' w.heap.size (fun k_ => some k_ ≠ (v0_ : Value).ownBlock) v1_ r2 ∧ Below w.heap.size w w' := by
 unfold impl_Batch.f at hf
 split at hf
 ·rename_i hx
  obtain ⟨rfl, rfl⟩ := Prod.mk.inj (Option.some.inj hf)
  exact hx A c w hC hl
 ·cases hf
theorem BatchC.eq {T : List ByteArray} {y mo d h mi s : Int} (hx : BatchC T y mo d h mi s (T.map (dueT y mo d h mi s)) (T.map fun _ => true)) : impl_Batch.f T y mo d h mi s = some (T.map (dueT y mo d h mi s), T.map fun _ => true) := if_pos hx
end Go.Proofs.YtemgofomhjabpaaGreatDoor.Core
namespace Go.Proofs.YtemgofomhjabpaaGreatDoor.Core
open Go.RowKit
def GoodC (y mo d h mi s : Int) (b : Bool) : Prop := ∀ w, Calls Tryz.prog 22 #[.agg #[.int .i64 y, .int .i64 mo, .int .i64 d, .int .i64 h, .int .i64 mi, .int .i64 s]] w fun e w' => e = .returned (.bool b) ∧ Below w.heap.size w w'
open Classical in
noncomputable def spec_MomentGood.f (y mo d h mi s : Int) : Option Bool :=
 if hx : ∃ p : Bool, GoodC y mo d h mi s p then some (Classical.choose hx) else none
theorem spec_MomentGood.calls (y mo d h mi s : Int) (r : Bool) (w : World) (hf : spec_MomentGood.f y mo d h mi s = some r) :
  Calls Tryz.prog 22 #[.agg #[.int .i64 y, .int .i64 mo, .int .i64 d, .int .i64 h, .int .i64 mi, .int .i64 s]] w fun e w' => e = .returned (.bool r) ∧ Below w.heap.size w w' := by
 unfold spec_MomentGood.f at hf
 split at hf
 ·rename_i hx
  have hp := Classical.choose_spec hx
  rw [Option.some.inj hf] at hp
  exact hp w
 ·cases hf
theorem GoodC.eq {y mo d h mi s : Int} {b : Bool} (hd : GoodC y mo d h mi s b) : spec_MomentGood.f y mo d h mi s = some b := by
 have hx : ∃ p : Bool, GoodC y mo d h mi s p := ⟨b, hd⟩
 unfold spec_MomentGood.f
 rw [dif_pos hx]
 have hp := Classical.choose_spec hx
 have e := calls_one (hp default) (hd default) (by kernel_rfl)
 injection e with e
 rw [e]
end Go.Proofs.YtemgofomhjabpaaGreatDoor.Core
