/-
  PROVED: THE CARD OF laws.FnYear: for every expression, number and moment that come in, the call returns true, and the arguments read as they did.
  CONDITIONS: the row's own ('laid': tables of Go's library read as the row lists them; the tie is given).
-/
import Derived.Test.YtemgofomhjabpaaGreatDoorCYea1
import Derived.Test.YtemgofomhjabpaaGreatDoorCYea2
import Derived.Test.YtemgofomhjabpaaGreatDoorCYea3
import Derived.Test.YtemgofomhjabpaaGreatDoorCYea4
import Derived.Test.YtemgofomhjabpaaGreatDoorCYea5
import Derived.Deep.RegionHeld
import Derived.Deep.Slices
import Derived.Deep.Fields
import Derived.ChangeSame
import Derived.Lib.SmallJoins
import Derived.WideShapes
import Derived.OpenShut
import Derived.Test.YtemgofomhjabpaaGreatDoorCards
import Derived.Test.YtemgofomhjabpaaGreatDoorTie
import Derived.ProofKit
import Derived.LaidMore
import Derived.Lay
import Derived.SevenTiedAt
import Derived.Carry
namespace Go.Proofs.YtemgofomhjabpaaGreatDoor.Core
open Go.RowKit Go.Proofs.YtemgofomhjabpaaGreatDoorW.PrintWords
def PartOk (p : List UInt8) : Prop := p ≠ [] ∧ ∀ b ∈ p, 33 ≤ b.toNat ∧ b.toNat ≤ 63
theorem joinL_mem {c : UInt8} {P : List (List UInt8)} {b : UInt8} (h : b ∈ joinL c P) : b = c ∨ ∃ p ∈ P, b ∈ p := by
 induction P with
 | nil => cases h
 | cons x t ih =>
  cases t with
  | nil => exact Or.inr ⟨x, by simp, h⟩
  | cons y t =>
   rw [joinL] at h
   rcases List.mem_append.1 h with h | h
   ·exact Or.inr ⟨x, by simp, h⟩
   ·rcases List.mem_cons.1 h with h | h
    ·exact Or.inl h
    ·rcases ih h with h | ⟨p, hp, h⟩
     ·exact Or.inl h
     ·exact Or.inr ⟨p, by simp [hp], h⟩
theorem splitL_join (c : UInt8) (P : List (List UInt8)) (h : P ≠ []) (hc : ∀ p ∈ P, c ∉ p) : splitL c (joinL c P) = P := by
 induction P with
 | nil => exact absurd rfl h
 | cons x t ih =>
  cases t with
  | nil => exact splitL_none c x (hc x (by simp))
  | cons y t => rw [joinL, splitL_at c x _ (hc x (by simp)), ih (by simp) (fun p hp => hc p (by simp [hp]))]
theorem noDbl_part (p r : List UInt8) (hp : ∀ b ∈ p, b ≠ 32) (hr : noDbl r = true) : noDbl (p ++ r) = true := by
 induction p with
 | nil => exact hr
 | cons a t ih =>
  have ha : (a == 32) = false := by simpa using hp a (by simp)
  have := ih (fun b hb => hp b (by simp [hb]))
  rw [List.cons_append]
  match h : t ++ r with
  | [] => rfl
  | b :: s => rw [h] at this; simp [noDbl, ha, this]
theorem noDbl_join (P : List (List UInt8)) (hP : ∀ p ∈ P, PartOk p) : noDbl (joinL 32 P) = true := by
 have h32 : ∀ p ∈ P, ∀ b ∈ p, b ≠ 32 := by
  intro p hp b hb e
  have := (hP p hp).2 b hb
  rw [e] at this
  simp at this
 induction P with
 | nil => rfl
 | cons x t ih =>
  cases t with
  | nil => have := noDbl_part x [] (h32 x (by simp)) rfl; simpa [joinL] using this
  | cons y t =>
   rw [joinL]
   refine noDbl_part x _ (h32 x (by simp)) ?_
   have hrec := ih (fun p hp => hP p (by simp [hp])) (fun p hp => h32 p (by simp [hp]))
   match h : joinL 32 (y :: t) with
   | [] => rfl
   | b :: s =>
    rw [h] at hrec
    have hb : b ≠ 32 := by
     have hy := hP y (by simp)
     match hyy : y with
     | [] => exact absurd rfl hy.1
     | z :: zs =>
      have : b = z := by
       cases t with
       | nil => rw [joinL] at h; exact (List.cons.inj h).1.symm
       | cons w t => rw [joinL, List.cons_append] at h; exact (List.cons.inj h).1.symm
      rw [this]
      exact h32 (z :: zs) (by simp) z (by simp)
    simp [noDbl, hb, hrec]
theorem getLast_join (c : UInt8) (P : List (List UInt8)) (hne : P ≠ []) (hP : ∀ p ∈ P, p ≠ []) (b : UInt8) (h : (joinL c P).getLast? = some b) : ∃ p ∈ P, b ∈ p := by
 induction P with
 | nil => exact absurd rfl hne
 | cons x t ih =>
  cases t with
  | nil => exact ⟨x, by simp, List.mem_of_getLast? h⟩
  | cons y t =>
   have hy : joinL c (y :: t) ≠ [] := joinL_ne c _ (by simp) (fun p hp => hP p (by simp [hp]))
   rw [joinL, List.getLast?_append, List.getLast?_cons_of_ne_nil hy] at h
   match hl : (joinL c (y :: t)).getLast? with
   | none => exact absurd (List.getLast?_eq_none_iff.1 hl) hy
   | some z =>
    rw [hl, Option.some_or] at h
    obtain ⟨p, hp, hb⟩ := ih (by simp) (fun p hp => hP p (by simp [hp])) (by rw [hl]; exact h)
    exact ⟨p, by simp [hp], hb⟩
theorem head_join (c : UInt8) (P : List (List UInt8)) (hne : P ≠ []) (hP : ∀ p ∈ P, p ≠ []) (b : UInt8) (h : (joinL c P).head? = some b) : ∃ p ∈ P, b ∈ p := by
 match P, hne with
 | [x], _ => exact ⟨x, by simp, List.mem_of_mem_head? h⟩
 | x :: y :: t, _ =>
  match hx : x with
  | [] => exact absurd rfl (hP [] (by simp))
  | z :: zs =>
   rw [joinL, List.cons_append, List.head?_cons] at h
   exact ⟨z :: zs, by simp, by rw [← Option.some.inj h]; simp⟩
theorem normalize_ev (P : List (List UInt8)) (hne : P ≠ []) (hP : ∀ p ∈ P, PartOk p) (hl : (joinL 32 P).length < 8796093022208) : Ev (fun k => gronx_normalize.f k (B (joinL 32 P))) (P.map B) := by
 have hpl : ∀ b ∈ joinL 32 P, plainB b = true := by
  intro b hb
  rcases joinL_mem hb with h | ⟨p, hp, h⟩
  ·subst h; rfl
  ·have := (hP p hp).2 b h
   unfold plainB
   rw [decide_eq_true this.1, decide_eq_true this.2]
   simp
 have h63 : ∀ b ∈ joinL 32 P, b.toNat ≤ 63 := by
  intro b hb
  rcases joinL_mem hb with h | ⟨p, hp, h⟩
  ·subst h; decide
  ·exact ((hP p hp).2 b h).2
 have hends : ∀ b, (∃ p ∈ P, b ∈ p) → b ≠ 32 ∧ b ≠ 9 := by
  rintro b ⟨p, hp, h⟩
  have := (hP p hp).2 b h
  constructor <;> (intro e; subst e; simp at this)
 have hd := noDbl_join P hP
 have hjn : joinL 32 P ≠ [] := joinL_ne _ _ hne (fun p hp => (hP p hp).1)
 unfold gronx_normalize.f
 refine Ev.bind (f := fun k t174 => ((strings_ToLower.f t174).bind fun t175 => ((gronx_expression.f t175).bind fun bt176 => (if bt176.2 = true then (gronx_normalize.j0 k bt176.1) else (gronx_normalize.j0 k t174))))) (zzTrim_ev _ (by omega) hjn (fun b hb => hends b (head_join 32 P hne (fun p hp => (hP p hp).1) b hb)) (fun b hb => hends b (getLast_join 32 P hne (fun p hp => (hP p hp).1) b hb))) ?_
 refine Ev.congr (f := fun k => gronx_normalize.j0 k (B (joinL 32 P))) (fun k => ?_) ?_
 ·simp only [toLower_plain _ (by omega : (joinL 32 P).length ≤ 140737488355328) h63, Option.bind_some, expression_no _ h63]
  rw [if_neg (by simp)]
 ·refine Ev.step (f := fun k => (gronx_zzSpaces.f k (B (joinL 32 P))).bind fun t178 => ((strings_ToUpper.f t178).bind fun t179 => ((gronx_zzLiterals.f k t179).bind fun t180 => ((gronx_zzReplaceAll.f k t180 (⟨#[32, 32]⟩ : ByteArray) (⟨#[32]⟩ : ByteArray)).bind fun t181 => ((gronx_zzSplit.f k t181 (⟨#[32]⟩ : ByteArray)).bind fun t182 => (some t182)))))) (fun k => by simp only [gronx_normalize.j0]) ?_
  refine Ev.bind (zzSpaces_ev _ (by omega) hd hpl) ?_
  refine Ev.congr (f := fun k => (gronx_zzLiterals.f k (B (joinL 32 P))).bind fun t180 => ((gronx_zzReplaceAll.f k t180 (⟨#[32, 32]⟩ : ByteArray) (⟨#[32]⟩ : ByteArray)).bind fun t181 => ((gronx_zzSplit.f k t181 (⟨#[32]⟩ : ByteArray)).bind fun t182 => (some t182)))) (fun k => by rw [toUpper_plain _ (by omega : (joinL 32 P).length ≤ 140737488355328) h63]; rfl) ?_
  refine Ev.bind (zzLiterals_ev _ (by omega) h63) ?_
  refine Ev.bind (f := fun k t181 => ((gronx_zzSplit.f k t181 (⟨#[32]⟩ : ByteArray)).bind fun t182 => (some t182))) (zzReplace_no _ [32, 32] [32] (by simp) (by simp) (noDbl_idx _ hd 0) (by omega)) ?_
  have hs := zzSplit_ev 32 (joinL 32 P) hl
  rw [splitL_join 32 P hne (fun p hp e => by have := (hP p hp).2 32 e; simp at this)] at hs
  exact Ev.bind hs (Ev.const rfl)
theorem segments_ev (P : List (List UInt8)) (hP : ∀ p ∈ P, PartOk p) (hl : (joinL 32 P).length < 8796093022208) (h5 : 5 ≤ P.length) (h7 : P.length ≤ 7) (h5l : ∀ h : P.length = 6, (P[5]'(by omega)).length < 4611686018427387904) :
  Ev (fun k => gronx_Segments.f k (B (joinL 32 P))) (((if P.length = 5 ∨ (∃ h : P.length = 6, hasYr (P[5]'(by omega)) 0 = true) then [48] :: P else P).map B), none) := by
 have hne : P ≠ [] := by intro e; rw [e] at h5; simp at h5
 unfold gronx_Segments.f
 refine Ev.bind (f := fun k t185 => (if (t185.length : Int) < 5 then (gronx_Segments.j0 k t185 (t185.length : Int) true) else (gronx_Segments.j0 k t185 (t185.length : Int) (decide ((t185.length : Int) > 7))))) (normalize_ev P hne hP hl) ?_
 rw [List.length_map]
 refine Ev.congr (f := fun k => gronx_Segments.j0 k (P.map B) (P.length : Int) false) (fun k => ?_) ?_
 ·rw [if_neg (by omega), decide_eq_false (by omega)]
 by_cases e5 : P.length = 5
 ·rw [if_pos (Or.inl e5)]
  refine Ev.done fun k => ?_
  simp only [gronx_Segments.j0]
  rw [if_neg (by simp), if_pos (by omega)]
  simp only [Option.bind_some]
  rw [if_pos (by simp; omega)]
  rfl
 ·by_cases e6 : P.length = 6
  ·have hy := zzHasYear_ev (P[5]'(by omega)) (h5l e6)
   have hrd : rdOf ByteArray.empty (P.map B) 5 = B (P[5]'(by omega)) := by simp [rdOf, e6]
   refine Ev.step (f := fun k => (gronx_zzHasYear.f k (B (P[5]'(by omega)))).bind fun t199 => (if t199 = true then ((some (([(⟨#[48]⟩ : ByteArray)] : List ByteArray) : List ByteArray)).bind fun y200 => (if y200.length + (P.map B).length < 8796093022208 then (some ((y200 ++ P.map B), none)) else (none))) else (some (P.map B, none)))) (fun k => ?_) (Ev.bind hy (Ev.const ?_))
   ·simp only [gronx_Segments.j0]
    rw [if_neg (by simp), if_neg (by omega), if_pos (by omega), if_pos (by simp; omega), hrd]
   ·cases hb : hasYr (P[5]'(by omega)) 0 with
    | true =>
     rw [if_pos rfl, if_pos (Or.inr ⟨e6, hb⟩)]
     simp only [Option.bind_some]
     rw [if_pos (by simp; omega)]
     rfl
    | false =>
     rw [if_neg (by simp), if_neg (by rintro (h | ⟨_, h⟩); omega; rw [hb] at h; cases h)]
  ·rw [if_neg (by rintro (h | ⟨h, _⟩) <;> omega)]
   refine Ev.done fun k => ?_
   simp only [gronx_Segments.j0]
   rw [if_neg (by simp), if_neg (by omega), if_neg (by omega)]
theorem parts_ev {s : ByteArray} {P : List ByteArray} (h : Ev (fun k => gronx_Segments.f k s) (P, none)) : Ev (fun k => impl_Parts.f k s) (P, true) := by
 unfold impl_Parts.f
 exact Ev.bind (f := fun _ (bt206 : List ByteArray × Option Int) => if bt206.2.isNone = true then (some (bt206.1, true)) else (some (bt206.1, false))) h (Ev.const rfl)
def nd (c : UInt8) : Prop := c.toNat < 48 ∨ 57 < c.toNat
theorem decN_part (n : Nat) : ∀ b ∈ decN n, 33 ≤ b.toNat ∧ b.toNat ≤ 63 := fun b hb => by have := decN_digit n b hb; omega
theorem itemL_part (x : It) : ∀ b ∈ itemL x, 33 ≤ b.toNat ∧ b.toNat ≤ 63 := by
 have hs : ∀ b ∈ stepL x.f3, 33 ≤ b.toNat ∧ b.toNat ≤ 63 := by
  intro b hb
  unfold stepL at hb
  split at hb
  ·rcases List.mem_cons.1 hb with h | h
   ·subst h; decide
   ·exact decN_part _ b h
  ·cases hb
 intro b hb
 unfold itemL at hb
 split at hb
 ·rcases List.mem_cons.1 hb with h | h
  ·subst h; decide
  ·exact hs b h
 ·rcases List.mem_append.1 hb with h | h
  ·exact decN_part _ b h
  ·rcases List.mem_append.1 h with h | h
   ·split at h
    ·rcases List.mem_cons.1 h with h | h
     ·subst h; decide
     ·exact decN_part _ b h
    ·cases h
   ·exact hs b h
theorem field_part {i : Nat} {l : List It} (h : goodF i l = true) : PartOk (fieldL l) := by
 refine ⟨fieldL_ne h, fun b hb => ?_⟩
 rcases joinL_mem hb with h | ⟨p, hp, h⟩
 ·subst h; decide
 ·obtain ⟨x, _, rfl⟩ := List.mem_map.1 hp
  exact itemL_part x b h
theorem zeroF_field {l : List It} (h : zeroF l = true) : fieldL l = [48] := by
 unfold zeroF at h
 split at h
 ·rename_i x
  simp only [Bool.and_eq_true, Bool.not_eq_true', beq_iff_eq] at h
  obtain ⟨⟨⟨h0, h1⟩, h2⟩, h3⟩ := h
  simp [fieldL, joinL, itemL, stepL, h0, h1, h2, h3, decN_lt]
 ·cases h
end Go.Proofs.YtemgofomhjabpaaGreatDoor.Core
namespace Go.Proofs.YtemgofomhjabpaaGreatDoor.Core
open Go.RowKit Go.Proofs.YtemgofomhjabpaaGreatDoorW.PrintWords
def hasIt (i : Nat) (x : It) (n : Int) : Bool := decide ((if x.f0 then lowI i else x.f1) ≤ n ∧ n ≤ (if x.f0 then highI i else x.f2) ∧ (n - (if x.f0 then lowI i else x.f1)) % x.f3 = 0)
def hasF (i : Nat) (l : List It) (n : Int) : Bool := l.any fun x => hasIt i x n
theorem has_from (i : Nat) (hi : i < 6) (l : List It) (hg : ∀ x ∈ l, goodItem i x = true) (hl : l.length < 4611686018427387904) (n : Int) (n0 : 0 ≤ n) (n1 : n ≤ 10000) :
  ∀ (rest : List It) (j : Nat), l.drop j = rest → j ≤ l.length → Ev (fun k => spec_Has.l0 k (i : Int) n l (l.length : Int) (j : Int)) (hasF i rest n) := by
 intro rest
 induction rest with
 | nil =>
  intro j hj hjl
  have hlen : l.length ≤ j := List.drop_eq_nil_iff.1 hj
  refine Ev.done fun k => ?_
  simp only [spec_Has.l0]
  rw [if_neg (by omega)]
  rfl
 | cons x t ih =>
  intro j hj hjl
  have hlt : j < l.length := by
   rcases Nat.lt_or_ge j l.length with h | h
   ·exact h
   ·rw [List.drop_eq_nil_of_le h] at hj; cases hj
  have hx : l[j] = x := by
   have := List.drop_eq_getElem_cons hlt
   rw [hj] at this
   exact (List.cons.inj this).1.symm
  have ht : l.drop (j + 1) = t := by rw [← List.drop_drop, hj]; rfl
  have hrd := rdI_at l j hlt
  rw [hx] at hrd
  have hrec := ih (j + 1) ht (by omega)
  obtain ⟨s1, s2, hr⟩ := goodItem_spec (hg x (by rw [← hx]; exact List.getElem_mem hlt))
  have hlo := lowI_ge i
  have hw := wrap64_nat j (by omega)
  have hcons : hasF i (x :: t) n = (hasIt i x n || hasF i t n) := rfl
  rw [hcons]
  have hgo : hasIt i x n = false → Ev (fun k => spec_Has.l0 k (i : Int) n l (l.length : Int) ((j + 1 : Nat) : Int)) (hasIt i x n || hasF i t n) := fun e => by rw [e, Bool.false_or]; exact hrec
  by_cases h0 : x.f0 = true
  ·have e0 : hasIt i x n = decide (lowI i ≤ n ∧ n ≤ highI i ∧ (n - lowI i) % x.f3 = 0) := by simp [hasIt, h0]
   by_cases g1 : lowI i ≤ n
   ·by_cases g2 : n ≤ highI i
    ·have hm : Int.tmod (wrap64 (n - lowI i)) x.f3 = (n - lowI i) % x.f3 := by rw [wrap64_id (by omega) (by omega), Int.tmod_eq_emod_of_nonneg (by omega)]
     by_cases g3 : (n - lowI i) % x.f3 = 0
     ·rw [e0, decide_eq_true ⟨g1, g2, g3⟩, Bool.true_or]
      refine Ev.done fun k => ?_
      simp only [spec_Has.l0, hrd, low_some, high_some i hi, Option.bind_some, hm]
      rw [if_pos (by omega), if_pos (by omega), if_pos (by omega), if_pos h0, if_pos (by omega), if_pos (by omega), if_neg (by omega), if_pos g3]
     ·refine Ev.step (fun k => ?_) (hgo (by rw [e0]; exact decide_eq_false (fun e => g3 e.2.2)))
      simp only [spec_Has.l0, hrd, low_some, high_some i hi, Option.bind_some, hm]
      rw [if_pos (by omega), if_pos (by omega), if_pos (by omega), if_pos h0, if_pos (by omega), if_pos (by omega), if_neg (by omega), if_neg g3, hw]
    ·refine Ev.step (fun k => ?_) (hgo (by rw [e0]; exact decide_eq_false (fun e => g2 e.2.1)))
     simp only [spec_Has.l0, hrd, low_some, high_some i hi, Option.bind_some]
     rw [if_pos (by omega), if_pos (by omega), if_pos (by omega), if_pos h0, if_pos (by omega), if_neg (by omega), hw]
   ·refine Ev.step (fun k => ?_) (hgo (by rw [e0]; exact decide_eq_false (fun e => g1 e.1)))
    simp only [spec_Has.l0, hrd, low_some, high_some i hi, Option.bind_some]
    rw [if_pos (by omega), if_pos (by omega), if_pos (by omega), if_pos h0, if_neg (by omega), hw]
  ·have h0' : x.f0 = false := by simpa using h0
   obtain ⟨r1, r2, r3, _, _⟩ := hr h0'
   have e0 : hasIt i x n = decide (x.f1 ≤ n ∧ n ≤ x.f2 ∧ (n - x.f1) % x.f3 = 0) := by simp [hasIt, h0']
   by_cases g1 : x.f1 ≤ n
   ·by_cases g2 : n ≤ x.f2
    ·have hm : Int.tmod (wrap64 (n - x.f1)) x.f3 = (n - x.f1) % x.f3 := by rw [wrap64_id (by omega) (by omega), Int.tmod_eq_emod_of_nonneg (by omega)]
     by_cases g3 : (n - x.f1) % x.f3 = 0
     ·rw [e0, decide_eq_true ⟨g1, g2, g3⟩, Bool.true_or]
      refine Ev.done fun k => ?_
      simp only [spec_Has.l0, hrd, hm]
      rw [if_pos (by omega), if_pos (by omega), if_pos (by omega), if_neg h0, if_pos (by omega), if_pos (by omega), if_neg (by omega), if_pos g3]
     ·refine Ev.step (fun k => ?_) (hgo (by rw [e0]; exact decide_eq_false (fun e => g3 e.2.2)))
      simp only [spec_Has.l0, hrd, hm]
      rw [if_pos (by omega), if_pos (by omega), if_pos (by omega), if_neg h0, if_pos (by omega), if_pos (by omega), if_neg (by omega), if_neg g3, hw]
    ·refine Ev.step (fun k => ?_) (hgo (by rw [e0]; exact decide_eq_false (fun e => g2 e.2.1)))
     simp only [spec_Has.l0, hrd]
     rw [if_pos (by omega), if_pos (by omega), if_pos (by omega), if_neg h0, if_pos (by omega), if_neg (by omega), hw]
   ·refine Ev.step (fun k => ?_) (hgo (by rw [e0]; exact decide_eq_false (fun e => g1 e.1)))
    simp only [spec_Has.l0, hrd]
    rw [if_pos (by omega), if_pos (by omega), if_pos (by omega), if_neg h0, if_neg (by omega), hw]
theorem has_ev (i : Nat) (hi : i < 6) (l : List It) (hg : goodF i l = true) (n : Int) (n0 : 0 ≤ n) (n1 : n ≤ 10000) : Ev (fun k => spec_Has.f k (i : Int) l n) (hasF i l n) := by
 obtain ⟨h1, h2, h3⟩ := goodF_spec hg
 exact has_from i hi l h1 (by omega) n n0 n1 l 0 rfl (Nat.zero_le _)
end Go.Proofs.YtemgofomhjabpaaGreatDoor.Core
namespace Go.Proofs.YtemgofomhjabpaaGreatDoor.Core
open Go.RowKit Go.Proofs.YtemgofomhjabpaaGreatDoorW.PrintWords Go.Proofs.YtemgofomhjabpaaGreatDoorW.PrintLast Go.Proofs.YtemgofomhjabpaaGreatDoorW.PrintMore
attribute [local go_sem] max2_int min2_int max_two min_two max_three min_three max_four min_four   -- for this text's walks alone
set_option linter.unusedVariables false
set_option linter.unusedSimpArgs false
mutual
def gronx_inStepRange.l0 : Nat → Int → Int → Int → Int → Option (Bool)
 | 0, _, _, _, _ => none
 | k + 1, x0, x2, x3, x9 => if x9 ≤ x2 then (gronx_inStepRange.j1 k x0 x2 x3 x9 (decide (x9 ≤ x0))) else (gronx_inStepRange.j1 k x0 x2 x3 x9 false)
def gronx_inStepRange.j1 : Nat → Int → Int → Int → Int → Bool → Option (Bool)
 | 0, _, _, _, _, _ => none
 | k + 1, x0, x2, x3, x9, x18 => if x18 = true then (if x9 = x0 then (some true) else (gronx_inStepRange.l0 k x0 x2 x3 (wrap64 (x9 + x3)))) else (some false)
end
def gronx_inStepRange.f (k : Nat) (a0 : Int) (a1 : Int) (a2 : Int) (a3 : Int) : Option (Bool) := gronx_inStepRange.l0 k a0 a2 a3 a1
set_option maxHeartbeats 8000000 in
set_option maxRecDepth 100000 in
theorem gronx_inStepRange.calls (k : Nat) (a0 : Int) (a1 : Int) (a2 : Int) (a3 : Int) (r : Bool) (w : World) (h : gronx_inStepRange.f k a0 a1 a2 a3 = some r) :
  Calls Tryz.prog 147 #[.int .i64 a0, .int .i64 a1, .int .i64 a2, .int .i64 a3] w fun e w' => e = .returned (.bool r) ∧ Drawn0 w w' := by
 have H : (gronx_inStepRange.l0 k a0 a2 a3 a1) = some r := h
 clear h
 have H' := Aside0.mk H
 clear H
 go_enter Tryz.func147, Tryz.ntmps147
 go_wp2
 go_loopg [9] k (fun kq v9 w' => ∃ (x9_1 : Int), v9 = .int .i64 x9_1 ∧ Aside0 (gronx_inStepRange.l0 kq a0 a2 a3 x9_1 = some r) ∧ Aside0 (kq ≤ k) ∧ Drawn0 w w')
 case atStart => exact ⟨(a1), (by first | rfl | (simp; done) | (simp [*]; done)), H', ⟨Nat.le_refl _⟩, by repeat (first | exact Drawn0.refl _ | apply Drawn0.step)⟩
 case round =>
  clear H'
  try clear c1
  try clear p2
  obtain ⟨x9_1, rfl, HA, HK1, ⟨m1, rfl⟩⟩ := hrel
  cases gk with
  | zero => exact absurd HA.out (by simp [gronx_inStepRange.l0])
  | succ k1 =>
   have H := HA.out
   clear HA
   simp only [gronx_inStepRange.l0] at H
   have HC5 := Aside0.mk H
   clear H
   go_upto_region 2 with (fail)
   go_cut [18] (fun v18 wc => ∃ (kq : Nat) (x18_4 : Bool), v18 = .bool x18_4 ∧ Aside0 (gronx_inStepRange.j1 kq a0 a2 a3 x9_1 x18_4 = some r) ∧ Aside0 (kq ≤ k1) ∧ Drawn0 w wc)
   case first =>
    have H := HC5.out
    clear HC5
    by_cases c6 : x9_1 ≤ a2
    ·rw [if_pos c6] at H
     have c6b0 : decide (x9_1 ≤ a2) = true := decide_eq_true c6
     clear c6
     (first | rw [c6b0] | (simp only [i64_w, i32_w]; rw [c6b0]) | skip)
     have H' := Aside0.mk H
     clear H
     go_wp2
     go_meet
     case rel => exact ⟨_, (decide (x9_1 ≤ a0)), (by first | rfl | (simp; done) | (simp [*]; done)), H', ⟨by have := HK1.out; first | omega | exact Nat.le_refl _⟩, by repeat (first | exact Drawn0.refl _ | apply Drawn0.step)⟩
    ·rw [if_neg c6] at H
     have c6b0 : decide (x9_1 ≤ a2) = false := decide_eq_false c6
     clear c6
     (first | rw [c6b0] | (simp only [i64_w, i32_w]; rw [c6b0]) | skip)
     have H' := Aside0.mk H
     clear H
     go_wp2
     go_meet
     case rel => exact ⟨_, (false), (by first | rfl | (simp; done) | (simp [*]; done)), H', ⟨by have := HK1.out; first | omega | exact Nat.le_refl _⟩, by repeat (first | exact Drawn0.refl _ | apply Drawn0.step)⟩
   case rest =>
    clear HC5
    try clear c1
    try clear p2
    try clear c6
    try clear c6b0
    try clear p2
    obtain ⟨kq, x18_4, rfl, HA, HJ4, ⟨mc4, rfl⟩⟩ := hcut
    cases kq with
    | zero => exact absurd HA.out (by simp [gronx_inStepRange.j1])
    | succ kj4 =>
     have H := HA.out
     clear HA
     simp only [gronx_inStepRange.j1] at H
     by_cases c7 : x18_4 = true
     ·subst c7
      have H1 : (if x9_1 = a0 then (some true) else (gronx_inStepRange.l0 kj4 a0 a2 a3 (wrap64 (x9_1 + a3)))) = some r := by rw [if_pos rfl] at H; exact H
      clear H
      have H := H1
      clear H1
      by_cases c8 : x9_1 = a0
      ·rw [if_pos c8] at H
       have c8b0 : (x9_1 == a0) = true := beq_iff_eq.mpr c8
       have c8b1 : (x9_1 != a0) = false := bne_eq_false_iff_eq.mpr c8
       clear c8
       obtain rfl := Option.some.inj H
       go_wp2
       go_ret
       exact ⟨by first | rfl | (simp; done) | (simp [*]; done), by repeat (first | exact Drawn0.refl _ | apply Drawn0.step)⟩
      ·rw [if_neg c8] at H
       have c8b0 : (x9_1 == a0) = false := beq_eq_false_iff_ne.mpr c8
       have c8b1 : (x9_1 != a0) = true := bne_iff_ne.mpr c8
       have H' := Aside0.mk H
       clear H
       go_wp2
       go_roundg kj4
       case measure => have := HK1.out; have := HJ4.out; omega
       case rel => exact ⟨(wrap64 (x9_1 + a3)), (by first | rfl | (simp; done) | (simp [*]; done)), H', ⟨by have := HK1.out; have := HJ4.out; omega⟩, by repeat (first | exact Drawn0.refl _ | apply Drawn0.step)⟩
     ·replace c7 := Bool.eq_false_iff.mpr c7
      subst c7
      have H1 : (some false) = some r := by rw [if_neg (show ¬ (false = true) by decide)] at H; exact H
      clear H
      have H := H1
      clear H1
      obtain rfl := Option.some.inj H
      go_wp2
      go_ret
      exact ⟨by first | rfl | (simp; done) | (simp [*]; done), by repeat (first | exact Drawn0.refl _ | apply Drawn0.step)⟩
end Go.Proofs.YtemgofomhjabpaaGreatDoor.Core
namespace Go.Proofs.YtemgofomhjabpaaGreatDoor.Core
open Go.RowKit Go.Proofs.YtemgofomhjabpaaGreatDoorW.PrintWords Go.Proofs.YtemgofomhjabpaaGreatDoorW.PrintLast Go.Proofs.YtemgofomhjabpaaGreatDoorW.PrintMore
attribute [local go_sem] max2_int min2_int max_two min_two max_three min_three max_four min_four   -- for this text's walks alone
set_option linter.unusedVariables false
set_option linter.unusedSimpArgs false
def gronx_boundsByPos.j0 : Nat → List Int → Int → Bool → Option (List Int)
 | 0, _, _, _ => none
 | k + 1, x2, x4, x5 => if x5 = true then (some (([0, 59] : List Int))) else (if x4 = 2 then (some (([0, 23] : List Int))) else (if x4 = 3 then (some (([1, 31] : List Int))) else (if x4 = 4 then (some (([1, 12] : List Int))) else (if x4 = 5 then (some (([0, 7] : List Int))) else (if x4 = 6 then (some (([0, 9999] : List Int))) else (some x2))))))
def gronx_boundsByPos.f (k : Nat) (a0 : Int) : Option (List Int) := (some (([0, 0] : List Int) : List Int)).bind fun y476 => (if a0 = 0 then (gronx_boundsByPos.j0 k y476 a0 (a0 == 0)) else (gronx_boundsByPos.j0 k y476 a0 (a0 == 1)))
set_option maxHeartbeats 8000000 in
set_option maxRecDepth 100000 in
theorem gronx_boundsByPos.calls (k : Nat) (a0 : Int) (r : List Int) (w : World) (h : gronx_boundsByPos.f k a0 = some r) :
  Calls Tryz.prog 132 #[.int .i64 a0] w fun e w' => ∃ v0_ : Value, e = .returned (v0_) ∧ Kd.R (Kd.int .i64) 3 w' w.heap.size (fun _ => True) v0_ r ∧ Below w.heap.size w w' := by
 have HB := Aside0.mk (Below.refl w.heap.size w)
 have H : ((some (([0, 0] : List Int) : List Int)).bind fun y476 => (if a0 = 0 then (gronx_boundsByPos.j0 k y476 a0 (a0 == 0)) else (gronx_boundsByPos.j0 k y476 a0 (a0 == 1)))) = some r := h
 clear h
 obtain ⟨y476, hy476⟩ : ∃ y_ : List Int, y_ = (([0, 0] : List Int)) := ⟨_, rfl⟩
 replace H : (if a0 = 0 then (gronx_boundsByPos.j0 k y476 a0 (a0 == 0)) else (gronx_boundsByPos.j0 k y476 a0 (a0 == 1))) = some r := by first | (rw [hy476]; with_reducible exact H) | (have H2_ := (Option.bind_some _ _).symm.trans H; rw [hy476]; with_reducible exact H2_) | (have H2_ := (Option.bind_some _ _).symm.trans H; with_reducible exact H2_) | with_reducible exact H | (rw [hy476]; exact H) | exact H
 have Ny476 := Aside0.mk hy476
 clear hy476
 have HC2 := Aside0.mk H
 clear H
 go_enter Tryz.func132, Tryz.ntmps132
 go_upto_if 5 with (first | ((with_reducible refine gate_dst (N := 3) rfl ?_); refine Kd.R_lit (Kd.int .i64) _ 3 ?hg (N := 3) ?hd (xs := ([0, 0] : List Int)) (inner := [.int .i64 0, .int .i64 0]) (ok := fun _ => True) (okp := fun _ => True) ?hr ?hp (fun _ hk => hk) trivial (Below.refl _ _) (Nat.le_refl _) (by simp) ?_; (case hd => rfl); (case hg => rfl); (case hr => first | (go_simp; done) | (go_simp; rfl)); (case hp => exact (Reps.one (show Kd.M (Kd.int .i64) _ _ _ 0 [.int .i64 0] from rfl) (Reps.one (show Kd.M (Kd.int .i64) _ _ _ 0 [.int .i64 0] from rfl) (Reps.none _ _)))); intro v477 w3 ho4 hb hg_ hnew_; clear hg_ hnew_; (first | rw [← Ny476.out] at ho4 | (simp only [Int.reduceToNat] at ho4; rw [← Ny476.out] at ho4)); have n0_ := Aside0.mk (Kd.R_lower ho4 (below_size (by repeat (first | (with_reducible first | exact HB.out | apply below_alloc | apply pw_below_drewN | apply below_drew1) | exact HB.out)))); have n1_ := Aside0.mk (below_step (by repeat (first | (with_reducible first | exact HB.out | apply below_alloc | apply pw_below_drewN | apply below_drew1) | exact HB.out)) hb); clear HB; have HO478 := n0_; have HB := n1_; clear n0_ n1_; clear hb ho4))
 (try simp only [Act.put, List.setIfInBounds_toArray, List.set_cons_zero, List.set_cons_succ])
 go_cut [5] (fun v5 wc => ∃ (kq : Nat) (x5_1 : Bool), v5 = .bool x5_1 ∧ Aside0 (gronx_boundsByPos.j0 kq y476 a0 x5_1 = some r) ∧ Aside0 (kq ≤ k) ∧ Aside0 (Kd.R (Kd.int .i64) 3 wc w.heap.size (fun _ => True) v477 y476) ∧ Aside0 (Below w.heap.size w wc))
 case first =>
  have H := HC2.out
  clear HC2
  by_cases c5 : a0 = 0
  ·rw [if_pos c5] at H
   have c5b0 : (a0 == 0) = true := beq_iff_eq.mpr c5
   have c5b1 : (a0 != 0) = false := bne_eq_false_iff_eq.mpr c5
   clear c5
   (first | rw [c5b0] | (simp only [i64_w, i32_w]; rw [c5b0]) | skip)
   have H' := Aside0.mk H
   clear H
   go_wp2
   go_meet
   case rel => exact ⟨_, ((a0 == 0)), (by first | rfl | (simp; done) | (simp [*]; done)), H', ⟨by first | omega | exact Nat.le_refl _⟩, ⟨by (with_reducible repeat (first | apply Kd.R_alloc | apply Kd.R_drewN | apply Kd.R_drew)); exact HO478.out⟩, ⟨by repeat (first | (with_reducible first | exact HB.out | apply below_alloc | apply pw_below_drewN | apply below_drew1) | exact HB.out)⟩⟩
  ·rw [if_neg c5] at H
   have c5b0 : (a0 == 0) = false := beq_eq_false_iff_ne.mpr c5
   have c5b1 : (a0 != 0) = true := bne_iff_ne.mpr c5
   (first | rw [c5b0] | (simp only [i64_w, i32_w]; rw [c5b0]) | skip)
   have H' := Aside0.mk H
   clear H
   go_wp2
   go_meet
   case rel => exact ⟨_, ((a0 == 1)), (by first | rfl | (simp; done) | (simp [*]; done)), H', ⟨by first | omega | exact Nat.le_refl _⟩, ⟨by (with_reducible repeat (first | apply Kd.R_alloc | apply Kd.R_drewN | apply Kd.R_drew)); exact HO478.out⟩, ⟨by repeat (first | (with_reducible first | exact HB.out | apply below_alloc | apply pw_below_drewN | apply below_drew1) | exact HB.out)⟩⟩
 case rest =>
  clear HC2
  try clear c1
  try clear p2
  try clear c5
  try clear c5b0
  try clear c5b1
  obtain ⟨kq, x5_1, rfl, HA, HJ1, HO_2, HB⟩ := hcut
  cases kq with
  | zero => exact absurd HA.out (by simp [gronx_boundsByPos.j0])
  | succ kj1 =>
   have H := HA.out
   clear HA
   simp only [gronx_boundsByPos.j0] at H
   by_cases c6 : x5_1 = true
   ·subst c6
    have H1 : (some (([0, 59] : List Int))) = some r := by rw [if_pos rfl] at H; exact H
    clear H
    have H := H1
    clear H1
    obtain ⟨y479, hy479⟩ : ∃ y_ : List Int, y_ = (([0, 59] : List Int)) := ⟨_, rfl⟩
    replace H : (some y479) = some r := by first | (rw [hy479]; with_reducible exact H) | (have H2_ := (Option.bind_some _ _).symm.trans H; rw [hy479]; with_reducible exact H2_) | (have H2_ := (Option.bind_some _ _).symm.trans H; with_reducible exact H2_) | with_reducible exact H | (rw [hy479]; exact H) | exact H
    have Ny479 := Aside0.mk hy479
    clear hy479
    obtain rfl := Option.some.inj H
    go_wp2_with (first | ((with_reducible refine gate_dst (N := 8) rfl ?_); refine Kd.R_lit (Kd.int .i64) _ 3 ?hg (N := 8) ?hd (xs := ([0, 59] : List Int)) (inner := [.int .i64 0, .int .i64 59]) (ok := fun _ => True) (okp := fun _ => True) ?hr ?hp (fun _ hk => hk) trivial (Below.refl _ _) (Nat.le_refl _) (by simp) ?_; (case hd => rfl); (case hg => rfl); (case hr => first | (go_simp; done) | (go_simp; rfl)); (case hp => exact (Reps.one (show Kd.M (Kd.int .i64) _ _ _ 0 [.int .i64 0] from rfl) (Reps.one (show Kd.M (Kd.int .i64) _ _ _ 59 [.int .i64 59] from rfl) (Reps.none _ _)))); intro v480 w7 ho8 hb hg_ hnew_; clear hg_ hnew_; (first | rw [← Ny479.out] at ho8 | (simp only [Int.reduceToNat] at ho8; rw [← Ny479.out] at ho8)); have n0_ := Aside0.mk (Kd.R_elder' (by (with_reducible repeat (first | apply Kd.R_alloc | apply Kd.R_drewN | apply Kd.R_drew)); exact HO_2.out) (Kd.R_base ho8) hb); have n1_ := Aside0.mk (Kd.R_lower (Kd.R_new' ho8 (Kd.R_lt (by (with_reducible repeat (first | apply Kd.R_alloc | apply Kd.R_drewN | apply Kd.R_drew)); exact HO_2.out))) (below_size (by repeat (first | (with_reducible first | exact HB.out | apply below_alloc | apply pw_below_drewN | apply below_drew1) | exact HB.out)))); have n2_ := Aside0.mk (below_step (by repeat (first | (with_reducible first | exact HB.out | apply below_alloc | apply pw_below_drewN | apply below_drew1) | exact HB.out)) hb); clear HO_2; clear HB; have HO_2 := n0_; have HO481 := n1_; have HB := n2_; clear n0_ n1_ n2_; clear hb ho8))
    go_ret
    exact ⟨_, by first | rfl | (simp [errW_none, errW_some] <;> rfl) | (simp [*, errW_none, errW_some] <;> rfl), by (with_reducible repeat (first | apply Kd.R_alloc | apply Kd.R_drewN | apply Kd.R_drew)); exact Kd.R_mono HO481.out (fun _ hk => trivial), by repeat (first | (with_reducible first | exact HB.out | apply below_alloc | apply pw_below_drewN | apply below_drew1) | exact HB.out)⟩
   ·replace c6 := Bool.eq_false_iff.mpr c6
    subst c6
    have H1 : (if a0 = 2 then (some (([0, 23] : List Int))) else (if a0 = 3 then (some (([1, 31] : List Int))) else (if a0 = 4 then (some (([1, 12] : List Int))) else (if a0 = 5 then (some (([0, 7] : List Int))) else (if a0 = 6 then (some (([0, 9999] : List Int))) else (some y476)))))) = some r := by rw [if_neg (show ¬ (false = true) by decide)] at H; exact H
    clear H
    have H := H1
    clear H1
    by_cases c9 : a0 = 2
    ·rw [if_pos c9] at H
     have c9b0 : (a0 == 2) = true := beq_iff_eq.mpr c9
     have c9b1 : (a0 != 2) = false := bne_eq_false_iff_eq.mpr c9
     clear c9
     obtain ⟨y482, hy482⟩ : ∃ y_ : List Int, y_ = (([0, 23] : List Int)) := ⟨_, rfl⟩
     replace H : (some y482) = some r := by first | (rw [hy482]; with_reducible exact H) | (have H2_ := (Option.bind_some _ _).symm.trans H; rw [hy482]; with_reducible exact H2_) | (have H2_ := (Option.bind_some _ _).symm.trans H; with_reducible exact H2_) | with_reducible exact H | (rw [hy482]; exact H) | exact H
     have Ny482 := Aside0.mk hy482
     clear hy482
     obtain rfl := Option.some.inj H
     go_wp2_with (first | ((with_reducible refine gate_dst (N := 11) rfl ?_); refine Kd.R_lit (Kd.int .i64) _ 3 ?hg (N := 11) ?hd (xs := ([0, 23] : List Int)) (inner := [.int .i64 0, .int .i64 23]) (ok := fun _ => True) (okp := fun _ => True) ?hr ?hp (fun _ hk => hk) trivial (Below.refl _ _) (Nat.le_refl _) (by simp) ?_; (case hd => rfl); (case hg => rfl); (case hr => first | (go_simp; done) | (go_simp; rfl)); (case hp => exact (Reps.one (show Kd.M (Kd.int .i64) _ _ _ 0 [.int .i64 0] from rfl) (Reps.one (show Kd.M (Kd.int .i64) _ _ _ 23 [.int .i64 23] from rfl) (Reps.none _ _)))); intro v483 w10 ho11 hb hg_ hnew_; clear hg_ hnew_; (first | rw [← Ny482.out] at ho11 | (simp only [Int.reduceToNat] at ho11; rw [← Ny482.out] at ho11)); have n0_ := Aside0.mk (Kd.R_elder' (by (with_reducible repeat (first | apply Kd.R_alloc | apply Kd.R_drewN | apply Kd.R_drew)); exact HO_2.out) (Kd.R_base ho11) hb); have n1_ := Aside0.mk (Kd.R_lower (Kd.R_new' ho11 (Kd.R_lt (by (with_reducible repeat (first | apply Kd.R_alloc | apply Kd.R_drewN | apply Kd.R_drew)); exact HO_2.out))) (below_size (by repeat (first | (with_reducible first | exact HB.out | apply below_alloc | apply pw_below_drewN | apply below_drew1) | exact HB.out)))); have n2_ := Aside0.mk (below_step (by repeat (first | (with_reducible first | exact HB.out | apply below_alloc | apply pw_below_drewN | apply below_drew1) | exact HB.out)) hb); clear HO_2; clear HB; have HO_2 := n0_; have HO484 := n1_; have HB := n2_; clear n0_ n1_ n2_; clear hb ho11))
     go_ret
     exact ⟨_, by first | rfl | (simp [errW_none, errW_some] <;> rfl) | (simp [*, errW_none, errW_some] <;> rfl), by (with_reducible repeat (first | apply Kd.R_alloc | apply Kd.R_drewN | apply Kd.R_drew)); exact Kd.R_mono HO484.out (fun _ hk => trivial), by repeat (first | (with_reducible first | exact HB.out | apply below_alloc | apply pw_below_drewN | apply below_drew1) | exact HB.out)⟩
    ·rw [if_neg c9] at H
     have c9b0 : (a0 == 2) = false := beq_eq_false_iff_ne.mpr c9
     have c9b1 : (a0 != 2) = true := bne_iff_ne.mpr c9
     by_cases c12 : a0 = 3
     ·rw [if_pos c12] at H
      have c12b0 : (a0 == 3) = true := beq_iff_eq.mpr c12
      have c12b1 : (a0 != 3) = false := bne_eq_false_iff_eq.mpr c12
      clear c12
      obtain ⟨y485, hy485⟩ : ∃ y_ : List Int, y_ = (([1, 31] : List Int)) := ⟨_, rfl⟩
      replace H : (some y485) = some r := by first | (rw [hy485]; with_reducible exact H) | (have H2_ := (Option.bind_some _ _).symm.trans H; rw [hy485]; with_reducible exact H2_) | (have H2_ := (Option.bind_some _ _).symm.trans H; with_reducible exact H2_) | with_reducible exact H | (rw [hy485]; exact H) | exact H
      have Ny485 := Aside0.mk hy485
      clear hy485
      obtain rfl := Option.some.inj H
      go_wp2_with (first | ((with_reducible refine gate_dst (N := 14) rfl ?_); refine Kd.R_lit (Kd.int .i64) _ 3 ?hg (N := 14) ?hd (xs := ([1, 31] : List Int)) (inner := [.int .i64 1, .int .i64 31]) (ok := fun _ => True) (okp := fun _ => True) ?hr ?hp (fun _ hk => hk) trivial (Below.refl _ _) (Nat.le_refl _) (by simp) ?_; (case hd => rfl); (case hg => rfl); (case hr => first | (go_simp; done) | (go_simp; rfl)); (case hp => exact (Reps.one (show Kd.M (Kd.int .i64) _ _ _ 1 [.int .i64 1] from rfl) (Reps.one (show Kd.M (Kd.int .i64) _ _ _ 31 [.int .i64 31] from rfl) (Reps.none _ _)))); intro v486 w13 ho14 hb hg_ hnew_; clear hg_ hnew_; (first | rw [← Ny485.out] at ho14 | (simp only [Int.reduceToNat] at ho14; rw [← Ny485.out] at ho14)); have n0_ := Aside0.mk (Kd.R_elder' (by (with_reducible repeat (first | apply Kd.R_alloc | apply Kd.R_drewN | apply Kd.R_drew)); exact HO_2.out) (Kd.R_base ho14) hb); have n1_ := Aside0.mk (Kd.R_lower (Kd.R_new' ho14 (Kd.R_lt (by (with_reducible repeat (first | apply Kd.R_alloc | apply Kd.R_drewN | apply Kd.R_drew)); exact HO_2.out))) (below_size (by repeat (first | (with_reducible first | exact HB.out | apply below_alloc | apply pw_below_drewN | apply below_drew1) | exact HB.out)))); have n2_ := Aside0.mk (below_step (by repeat (first | (with_reducible first | exact HB.out | apply below_alloc | apply pw_below_drewN | apply below_drew1) | exact HB.out)) hb); clear HO_2; clear HB; have HO_2 := n0_; have HO487 := n1_; have HB := n2_; clear n0_ n1_ n2_; clear hb ho14))
      go_ret
      exact ⟨_, by first | rfl | (simp [errW_none, errW_some] <;> rfl) | (simp [*, errW_none, errW_some] <;> rfl), by (with_reducible repeat (first | apply Kd.R_alloc | apply Kd.R_drewN | apply Kd.R_drew)); exact Kd.R_mono HO487.out (fun _ hk => trivial), by repeat (first | (with_reducible first | exact HB.out | apply below_alloc | apply pw_below_drewN | apply below_drew1) | exact HB.out)⟩
     ·rw [if_neg c12] at H
      have c12b0 : (a0 == 3) = false := beq_eq_false_iff_ne.mpr c12
      have c12b1 : (a0 != 3) = true := bne_iff_ne.mpr c12
      by_cases c15 : a0 = 4
      ·rw [if_pos c15] at H
       have c15b0 : (a0 == 4) = true := beq_iff_eq.mpr c15
       have c15b1 : (a0 != 4) = false := bne_eq_false_iff_eq.mpr c15
       clear c15
       obtain ⟨y488, hy488⟩ : ∃ y_ : List Int, y_ = (([1, 12] : List Int)) := ⟨_, rfl⟩
       replace H : (some y488) = some r := by first | (rw [hy488]; with_reducible exact H) | (have H2_ := (Option.bind_some _ _).symm.trans H; rw [hy488]; with_reducible exact H2_) | (have H2_ := (Option.bind_some _ _).symm.trans H; with_reducible exact H2_) | with_reducible exact H | (rw [hy488]; exact H) | exact H
       have Ny488 := Aside0.mk hy488
       clear hy488
       obtain rfl := Option.some.inj H
       go_wp2_with (first | ((with_reducible refine gate_dst (N := 17) rfl ?_); refine Kd.R_lit (Kd.int .i64) _ 3 ?hg (N := 17) ?hd (xs := ([1, 12] : List Int)) (inner := [.int .i64 1, .int .i64 12]) (ok := fun _ => True) (okp := fun _ => True) ?hr ?hp (fun _ hk => hk) trivial (Below.refl _ _) (Nat.le_refl _) (by simp) ?_; (case hd => rfl); (case hg => rfl); (case hr => first | (go_simp; done) | (go_simp; rfl)); (case hp => exact (Reps.one (show Kd.M (Kd.int .i64) _ _ _ 1 [.int .i64 1] from rfl) (Reps.one (show Kd.M (Kd.int .i64) _ _ _ 12 [.int .i64 12] from rfl) (Reps.none _ _)))); intro v489 w16 ho17 hb hg_ hnew_; clear hg_ hnew_; (first | rw [← Ny488.out] at ho17 | (simp only [Int.reduceToNat] at ho17; rw [← Ny488.out] at ho17)); have n0_ := Aside0.mk (Kd.R_elder' (by (with_reducible repeat (first | apply Kd.R_alloc | apply Kd.R_drewN | apply Kd.R_drew)); exact HO_2.out) (Kd.R_base ho17) hb); have n1_ := Aside0.mk (Kd.R_lower (Kd.R_new' ho17 (Kd.R_lt (by (with_reducible repeat (first | apply Kd.R_alloc | apply Kd.R_drewN | apply Kd.R_drew)); exact HO_2.out))) (below_size (by repeat (first | (with_reducible first | exact HB.out | apply below_alloc | apply pw_below_drewN | apply below_drew1) | exact HB.out)))); have n2_ := Aside0.mk (below_step (by repeat (first | (with_reducible first | exact HB.out | apply below_alloc | apply pw_below_drewN | apply below_drew1) | exact HB.out)) hb); clear HO_2; clear HB; have HO_2 := n0_; have HO490 := n1_; have HB := n2_; clear n0_ n1_ n2_; clear hb ho17))
       go_ret
       exact ⟨_, by first | rfl | (simp [errW_none, errW_some] <;> rfl) | (simp [*, errW_none, errW_some] <;> rfl), by (with_reducible repeat (first | apply Kd.R_alloc | apply Kd.R_drewN | apply Kd.R_drew)); exact Kd.R_mono HO490.out (fun _ hk => trivial), by repeat (first | (with_reducible first | exact HB.out | apply below_alloc | apply pw_below_drewN | apply below_drew1) | exact HB.out)⟩
      ·rw [if_neg c15] at H
       have c15b0 : (a0 == 4) = false := beq_eq_false_iff_ne.mpr c15
       have c15b1 : (a0 != 4) = true := bne_iff_ne.mpr c15
       by_cases c18 : a0 = 5
       ·rw [if_pos c18] at H
        have c18b0 : (a0 == 5) = true := beq_iff_eq.mpr c18
        have c18b1 : (a0 != 5) = false := bne_eq_false_iff_eq.mpr c18
        clear c18
        obtain ⟨y491, hy491⟩ : ∃ y_ : List Int, y_ = (([0, 7] : List Int)) := ⟨_, rfl⟩
        replace H : (some y491) = some r := by first | (rw [hy491]; with_reducible exact H) | (have H2_ := (Option.bind_some _ _).symm.trans H; rw [hy491]; with_reducible exact H2_) | (have H2_ := (Option.bind_some _ _).symm.trans H; with_reducible exact H2_) | with_reducible exact H | (rw [hy491]; exact H) | exact H
        have Ny491 := Aside0.mk hy491
        clear hy491
        obtain rfl := Option.some.inj H
        go_wp2_with (first | ((with_reducible refine gate_dst (N := 20) rfl ?_); refine Kd.R_lit (Kd.int .i64) _ 3 ?hg (N := 20) ?hd (xs := ([0, 7] : List Int)) (inner := [.int .i64 0, .int .i64 7]) (ok := fun _ => True) (okp := fun _ => True) ?hr ?hp (fun _ hk => hk) trivial (Below.refl _ _) (Nat.le_refl _) (by simp) ?_; (case hd => rfl); (case hg => rfl); (case hr => first | (go_simp; done) | (go_simp; rfl)); (case hp => exact (Reps.one (show Kd.M (Kd.int .i64) _ _ _ 0 [.int .i64 0] from rfl) (Reps.one (show Kd.M (Kd.int .i64) _ _ _ 7 [.int .i64 7] from rfl) (Reps.none _ _)))); intro v492 w19 ho20 hb hg_ hnew_; clear hg_ hnew_; (first | rw [← Ny491.out] at ho20 | (simp only [Int.reduceToNat] at ho20; rw [← Ny491.out] at ho20)); have n0_ := Aside0.mk (Kd.R_elder' (by (with_reducible repeat (first | apply Kd.R_alloc | apply Kd.R_drewN | apply Kd.R_drew)); exact HO_2.out) (Kd.R_base ho20) hb); have n1_ := Aside0.mk (Kd.R_lower (Kd.R_new' ho20 (Kd.R_lt (by (with_reducible repeat (first | apply Kd.R_alloc | apply Kd.R_drewN | apply Kd.R_drew)); exact HO_2.out))) (below_size (by repeat (first | (with_reducible first | exact HB.out | apply below_alloc | apply pw_below_drewN | apply below_drew1) | exact HB.out)))); have n2_ := Aside0.mk (below_step (by repeat (first | (with_reducible first | exact HB.out | apply below_alloc | apply pw_below_drewN | apply below_drew1) | exact HB.out)) hb); clear HO_2; clear HB; have HO_2 := n0_; have HO493 := n1_; have HB := n2_; clear n0_ n1_ n2_; clear hb ho20))
        go_ret
        exact ⟨_, by first | rfl | (simp [errW_none, errW_some] <;> rfl) | (simp [*, errW_none, errW_some] <;> rfl), by (with_reducible repeat (first | apply Kd.R_alloc | apply Kd.R_drewN | apply Kd.R_drew)); exact Kd.R_mono HO493.out (fun _ hk => trivial), by repeat (first | (with_reducible first | exact HB.out | apply below_alloc | apply pw_below_drewN | apply below_drew1) | exact HB.out)⟩
       ·rw [if_neg c18] at H
        have c18b0 : (a0 == 5) = false := beq_eq_false_iff_ne.mpr c18
        have c18b1 : (a0 != 5) = true := bne_iff_ne.mpr c18
        by_cases c21 : a0 = 6
        ·rw [if_pos c21] at H
         have c21b0 : (a0 == 6) = true := beq_iff_eq.mpr c21
         have c21b1 : (a0 != 6) = false := bne_eq_false_iff_eq.mpr c21
         clear c21
         obtain ⟨y494, hy494⟩ : ∃ y_ : List Int, y_ = (([0, 9999] : List Int)) := ⟨_, rfl⟩
         replace H : (some y494) = some r := by first | (rw [hy494]; with_reducible exact H) | (have H2_ := (Option.bind_some _ _).symm.trans H; rw [hy494]; with_reducible exact H2_) | (have H2_ := (Option.bind_some _ _).symm.trans H; with_reducible exact H2_) | with_reducible exact H | (rw [hy494]; exact H) | exact H
         have Ny494 := Aside0.mk hy494
         clear hy494
         obtain rfl := Option.some.inj H
         go_wp2_with (first | ((with_reducible refine gate_dst (N := 23) rfl ?_); refine Kd.R_lit (Kd.int .i64) _ 3 ?hg (N := 23) ?hd (xs := ([0, 9999] : List Int)) (inner := [.int .i64 0, .int .i64 9999]) (ok := fun _ => True) (okp := fun _ => True) ?hr ?hp (fun _ hk => hk) trivial (Below.refl _ _) (Nat.le_refl _) (by simp) ?_; (case hd => rfl); (case hg => rfl); (case hr => first | (go_simp; done) | (go_simp; rfl)); (case hp => exact (Reps.one (show Kd.M (Kd.int .i64) _ _ _ 0 [.int .i64 0] from rfl) (Reps.one (show Kd.M (Kd.int .i64) _ _ _ 9999 [.int .i64 9999] from rfl) (Reps.none _ _)))); intro v495 w22 ho23 hb hg_ hnew_; clear hg_ hnew_; (first | rw [← Ny494.out] at ho23 | (simp only [Int.reduceToNat] at ho23; rw [← Ny494.out] at ho23)); have n0_ := Aside0.mk (Kd.R_elder' (by (with_reducible repeat (first | apply Kd.R_alloc | apply Kd.R_drewN | apply Kd.R_drew)); exact HO_2.out) (Kd.R_base ho23) hb); have n1_ := Aside0.mk (Kd.R_lower (Kd.R_new' ho23 (Kd.R_lt (by (with_reducible repeat (first | apply Kd.R_alloc | apply Kd.R_drewN | apply Kd.R_drew)); exact HO_2.out))) (below_size (by repeat (first | (with_reducible first | exact HB.out | apply below_alloc | apply pw_below_drewN | apply below_drew1) | exact HB.out)))); have n2_ := Aside0.mk (below_step (by repeat (first | (with_reducible first | exact HB.out | apply below_alloc | apply pw_below_drewN | apply below_drew1) | exact HB.out)) hb); clear HO_2; clear HB; have HO_2 := n0_; have HO496 := n1_; have HB := n2_; clear n0_ n1_ n2_; clear hb ho23))
         go_ret
         exact ⟨_, by first | rfl | (simp [errW_none, errW_some] <;> rfl) | (simp [*, errW_none, errW_some] <;> rfl), by (with_reducible repeat (first | apply Kd.R_alloc | apply Kd.R_drewN | apply Kd.R_drew)); exact Kd.R_mono HO496.out (fun _ hk => trivial), by repeat (first | (with_reducible first | exact HB.out | apply below_alloc | apply pw_below_drewN | apply below_drew1) | exact HB.out)⟩
        ·rw [if_neg c21] at H
         have c21b0 : (a0 == 6) = false := beq_eq_false_iff_ne.mpr c21
         have c21b1 : (a0 != 6) = true := bne_iff_ne.mpr c21
         obtain rfl := Option.some.inj H
         go_wp2
         go_ret
         exact ⟨_, by first | rfl | (simp [errW_none, errW_some] <;> rfl) | (simp [*, errW_none, errW_some] <;> rfl), by (with_reducible repeat (first | apply Kd.R_alloc | apply Kd.R_drewN | apply Kd.R_drew)); exact HO_2.out, by repeat (first | (with_reducible first | exact HB.out | apply below_alloc | apply pw_below_drewN | apply below_drew1) | exact HB.out)⟩
end Go.Proofs.YtemgofomhjabpaaGreatDoor.Core
namespace Go.Proofs.YtemgofomhjabpaaGreatDoor.Core
open Go.RowKit Go.Proofs.YtemgofomhjabpaaGreatDoorW.PrintWords Go.Proofs.YtemgofomhjabpaaGreatDoorW.PrintLast Go.Proofs.YtemgofomhjabpaaGreatDoorW.PrintMore
attribute [local go_sem] max2_int min2_int max_two min_two max_three min_three max_four min_four   -- for this text's walks alone
set_option linter.unusedVariables false
set_option linter.unusedSimpArgs false
def gronx_zzContains.f (k : Nat) (a0 : ByteArray) (a1 : ByteArray) : Option (Bool) := (gronx_zzIndex.f k a0 a1).bind fun t497 => (some (decide (t497 ≥ 0)))
set_option maxHeartbeats 8000000 in
set_option maxRecDepth 100000 in
theorem gronx_zzContains.calls (k : Nat) (a0 : ByteArray) (a1 : ByteArray) (r : Bool) (w : World) (h : gronx_zzContains.f k a0 a1 = some r) :
  Calls Tryz.prog 133 #[.string a0, .string a1] w fun e w' => e = .returned (.bool r) ∧ Drawn0 w w' := by
 have H : ((gronx_zzIndex.f k a0 a1).bind fun t497 => (some (decide (t497 ≥ 0)))) = some r := h
 clear h
 replace H := Option.bind_eq_some_iff.mp H
 obtain ⟨t497, A30, H⟩ := H
 replace H : (some (decide (t497 ≥ 0))) = some r := H
 have A3 := Aside0.mk A30
 clear A30
 obtain rfl := Option.some.inj H
 go_enter Tryz.func133, Tryz.ntmps133
 go_wp2_with (first | ((with_reducible refine gate_callee (f := 50) rfl ?_); refine goesL_ (some 7) rfl rfl Tryz.func50 (by kernel_rfl) rfl #[.string a0, .string a1] rfl (by (try simp only [List.map_toArray, List.map_cons, List.map_nil]); first | done | rfl | (simp only [List.length_drop, List.length_take]; rfl)) ?_; (with_reducible refine (gronx_zzIndex.calls k a0 a1 t497 _ A3.out).mono ?_); rintro e w' ⟨rfl, ⟨nd, rfl⟩⟩; refine ⟨_, rfl, ?_⟩))
 go_ret
 exact ⟨by first | rfl | (simp; done) | (simp [*]; done), by repeat (first | exact Drawn0.refl _ | apply Drawn0.step)⟩
end Go.Proofs.YtemgofomhjabpaaGreatDoor.Core
namespace Go.Proofs.YtemgofomhjabpaaGreatDoor.Core
open Go.RowKit Go.Proofs.YtemgofomhjabpaaGreatDoorW.PrintWords
def strconv_Atoi.f (a0 : ByteArray) : Option (Int × Option Int) := if a0.size ≤ 18 then ((Lib.atoi a0.data.toList).bind fun n => some (n, none)) else none
theorem strconv_Atoi.calls (a0 : ByteArray) (r1 : Int) (r2 : Option Int) (w : World) (h : strconv_Atoi.f a0 = some (r1, r2)) :
  Calls Tryz.prog 136 #[.string a0] w fun e w' => e = .returned (.tuple #[.int .i64 r1, errW r2]) ∧ Below w.heap.size w w' := by
 unfold strconv_Atoi.f at h
 split at h
 ·rename_i h1
  obtain ⟨n, hn, h⟩ := Option.bind_eq_some_iff.1 h
  simp only [Option.some.injEq, Prod.mk.injEq] at h
  obtain ⟨rfl, rfl⟩ := h
  refine (Tryz.strconv_Atoi a0 n h1 hn w).mono ?_
  rintro e w' ⟨rfl, t, rfl⟩
  exact ⟨rfl, bytes_below (Below.refl _ _) (Nat.le_refl _) _ _⟩
 ·cases h
end Go.Proofs.YtemgofomhjabpaaGreatDoor.Core
namespace Go.Proofs.YtemgofomhjabpaaGreatDoor.Core
open Go.RowKit Go.Proofs.YtemgofomhjabpaaGreatDoorW.PrintWords
def InC (f : FuncId) (val : Int) (s : ByteArray) (t : List Int) (wd r : Bool) : Prop := ∀ (A : Option Addr) (cc : Nat) (w : World), Kd.C (Kd.int .i64) w A t.length t → t.length ≤ cc → Calls Tryz.prog f #[.int .i64 val, .string s, .slice A t.length cc, .bool wd] w fun e w' => e = .returned (.tuple #[.bool r, .nilIface]) ∧ Below w.heap.size w w'
theorem two_at {w : World} {A : Option Addr} {P : List ByteArray} {n : Nat} (h : Kd.C Kd.string w A n P) (hn : n = P.length) (h2 : 1 < P.length) : ∃ ad, A = some ad ∧ w.cell? ad = some (.string (rdOf ByteArray.empty P 0)) ∧ w.cell? ⟨ad.block, ad.off + 1, none⟩ = some (.string (rdOf ByteArray.empty P 1)) := by
 subst hn
 obtain ⟨ad, rfl, hx0⟩ := Kd.at_string h 0 (by omega) (by omega)
 obtain ⟨ad', ea, hx1⟩ := Kd.at_string h 1 (by omega) (by omega)
 obtain rfl := Option.some.inj ea
 exact ⟨ad, rfl, hx0, hx1⟩
theorem two_int {w : World} {A : Option Addr} {t : List Int} {n : Nat} (h : Kd.C (Kd.int .i64) w A n t) (hn : n = t.length) (h2 : 1 < t.length) : ∃ ad, A = some ad ∧ w.cell? ad = some (.int .i64 (rd t 0)) ∧ w.cell? ⟨ad.block, ad.off + 1, none⟩ = some (.int .i64 (rd t 1)) := by
 subst hn
 obtain ⟨ad, rfl, hx0⟩ := Kd.at_int h 0 (by omega) (by omega)
 obtain ⟨ad', ea, hx1⟩ := Kd.at_int h 1 (by omega) (by omega)
 obtain rfl := Option.some.inj ea
 exact ⟨ad, rfl, hx0, hx1⟩
set_option maxRecDepth 100000 in
set_option maxHeartbeats 800000 in
theorem sstep_w (val step : Int) (s : ByteArray) (t : List Int) (wd : Bool) (k : Nat) (P : List ByteArray) (hs : gronx_zzSplit.f k s ⟨#[47]⟩ = some P) (hP : P.length = 2) (ha : strconv_Atoi.f (rdOf ByteArray.empty P 1) = some (step, none)) (s0 : 1 ≤ step) (s1 : step ≤ 1000) (hi : gronx_zzIndex.f k s ⟨#[42, 47]⟩ = some 0) (ht : t.length = 2) (hv0 : rd t 0 ≤ val) (hv1 : val ≤ 100000) (hv2 : 0 ≤ rd t 0) : InC 134 val s t wd (decide ((val - rd t 0) % step = 0)) := by
 intro A cc w hC hcc
 have hs := Aside0.mk hs
 have ha := Aside0.mk ha
 have hi := Aside0.mk hi
 obtain ⟨ab, rfl, u0, u1⟩ := two_int hC rfl (by omega)
 have hm : Int.tmod (val - rd t 0) step = (val - rd t 0) % step := Int.tmod_eq_emod_of_nonneg (by omega)
 have qi0 : (0 < t.length) = True := eq_true (by omega)
 have qi1 : (0 < (t.length : Int)) = True := eq_true (by omega)
 have qp0 : (1 < P.length) = True := eq_true (by omega)
 have qp1 : (1 < (P.length : Int)) = True := eq_true (by omega)
 have n0 : ¬ step ≤ 0 := by omega
 have n1 : step ≠ 0 := by omega
 have hw : wrap64 (val - rd t 0) = val - rd t 0 := by unfold wrap64; omega
 generalize rd t 0 = lo at *
 go_enter Tryz.func134, Tryz.ntmps134
 go_wp2_with (first | (go_at_call 62; refine (gronx_zzSplit.calls k _ _ _ _ hs.out).mono ?_; rintro e w1 ⟨v0, rfl, hR, hb1⟩; obtain ⟨A1, c1, rfl⟩ := Kd.R_slice hR; obtain ⟨ad, rfl, y0, y1⟩ := two_at (Kd.R_reads' hR).2.2 rfl (by omega); have u2 := cell_after hb1 u0) | (go_at_call 136; refine (strconv_Atoi.calls _ _ _ _ ha.out).mono ?_; rintro e w2 ⟨rfl, hb2⟩; have u3 := cell_after hb2 u2; rw [errW_none]) | (go_at_call 50; refine (gronx_zzIndex.calls k _ _ _ _ hi.out).mono ?_; rintro e wz ⟨rfl, ⟨nd, rfl⟩⟩))
 go_ret2
 exact ⟨by first | rfl | simp, below_step (by repeat (first | exact hb1 | apply pw_below_drewN)) hb2 |> fun h => by repeat (first | exact h | apply pw_below_drewN)⟩
set_option maxRecDepth 100000 in
set_option maxHeartbeats 800000 in
theorem rstep_plain (val step a b : Int) (s : ByteArray) (t : List Int) (k : Nat) (P Q : List ByteArray) (i1 i2 : Int) (hs : gronx_zzSplit.f k s ⟨#[47]⟩ = some P) (hP : P.length = 2) (ha : strconv_Atoi.f (rdOf ByteArray.empty P 1) = some (step, none)) (s0 : 1 ≤ step) (hi : gronx_zzIndex.f k s ⟨#[42, 47]⟩ = some i1) (h1 : i1 ≠ 0) (hj : gronx_zzIndex.f k s ⟨#[48, 47]⟩ = some i2) (h2 : i2 ≠ 0) (hs2 : gronx_zzSplit.f k (rdOf ByteArray.empty P 0) ⟨#[45]⟩ = some Q) (hQ : Q.length = 2) (ha0 : strconv_Atoi.f (rdOf ByteArray.empty Q 0) = some (a, none)) (ha1 : strconv_Atoi.f (rdOf ByteArray.empty Q 1) = some (b, none)) (ht : t.length = 2) (hab : a ≤ b) (hlo : rd t 0 ≤ a) (hhi : b ≤ rd t 1) (r : Bool) (hr : gronx_inStepRange.f k val a b step = some r) : InC 134 val s t false r := by
 intro A cc w hC hcc
 have hs := Aside0.mk hs
 have ha := Aside0.mk ha
 have hi := Aside0.mk hi
 have hj := Aside0.mk hj
 have hs2 := Aside0.mk hs2
 have ha0 := Aside0.mk ha0
 have ha1 := Aside0.mk ha1
 have hr := Aside0.mk hr
 obtain ⟨ab, rfl, u0, u1⟩ := two_int hC rfl (by omega)
 have qi0 : (0 < t.length) = True := eq_true (by omega)
 have qi1 : (0 < (t.length : Int)) = True := eq_true (by omega)
 have qi2 : (1 < t.length) = True := eq_true (by omega)
 have qi3 : (1 < (t.length : Int)) = True := eq_true (by omega)
 have qp0 : (1 < P.length) = True := eq_true (by omega)
 have qp1 : (1 < (P.length : Int)) = True := eq_true (by omega)
 have qp2 : (0 < P.length) = True := eq_true (by omega)
 have qp3 : (0 < (P.length : Int)) = True := eq_true (by omega)
 have qq0 : (1 < Q.length) = True := eq_true (by omega)
 have qq1 : (1 < (Q.length : Int)) = True := eq_true (by omega)
 have qq2 : (0 < Q.length) = True := eq_true (by omega)
 have qq3 : (0 < (Q.length : Int)) = True := eq_true (by omega)
 have n0 : ¬ step ≤ 0 := by omega
 have n1 : (i1 == 0) = false := beq_eq_false_iff_ne.mpr h1
 have n2 : (i2 == 0) = false := beq_eq_false_iff_ne.mpr h2
 generalize rd t 0 = lo at *
 generalize rd t 1 = hi' at *
 have n3 : ¬ b < a := by omega
 have n4 : ¬ a < lo := by omega
 have n5 : ¬ hi' < b := by omega
 go_enter Tryz.func134, Tryz.ntmps134
 go_wp2_with (first | (go_at_call 62; refine (gronx_zzSplit.calls k _ _ _ _ hs.out).mono ?_; rintro e w1 ⟨v0, rfl, hR, hb1⟩; obtain ⟨A1, c1, rfl⟩ := Kd.R_slice hR; obtain ⟨ad, rfl, y0, y1⟩ := two_at (Kd.R_reads' hR).2.2 rfl (by omega); have u2 := cell_after hb1 u0; have u3 := cell_after hb1 u1; clear hs) | (go_at_call 136; refine (strconv_Atoi.calls _ _ _ _ ha.out).mono ?_; rintro e w2 ⟨rfl, hb2⟩; have u4 := cell_after hb2 u2; have u5 := cell_after hb2 u3; have y2 := cell_after hb2 y0; rw [errW_none]; clear ha) | (go_at_call 50; refine (gronx_zzIndex.calls k _ _ _ _ hi.out).mono ?_; rintro e wz ⟨rfl, ⟨nd, rfl⟩⟩; clear hi) | (go_at_call 50; refine (gronx_zzIndex.calls k _ _ _ _ hj.out).mono ?_; rintro e wz ⟨rfl, ⟨nd2, rfl⟩⟩; clear hj) | (go_at_call 62; refine (gronx_zzSplit.calls k _ _ _ _ hs2.out).mono ?_; rintro e w3 ⟨v2, rfl, hR2, hb3⟩; obtain ⟨A2, c2, rfl⟩ := Kd.R_slice hR2; obtain ⟨ae, rfl, z0, z1⟩ := two_at (Kd.R_reads' hR2).2.2 rfl (by omega); have hb3' : Below w2.heap.size w2 w3 := below_step (by repeat (first | exact Below.refl _ _ | apply pw_below_drewN)) hb3; have u6 := cell_after hb3' u4; have u7 := cell_after hb3' u5; clear hs2) | (go_at_call 136; refine (strconv_Atoi.calls _ _ _ _ ha0.out).mono ?_; rintro e w4 ⟨rfl, hb4⟩; have u8 := cell_after hb4 u6; have u9 := cell_after hb4 u7; have z2 := cell_after hb4 z1; rw [errW_none]; clear ha0) | (go_at_call 136; refine (strconv_Atoi.calls _ _ _ _ ha1.out).mono ?_; rintro e w5 ⟨rfl, hb5⟩; have v8 := cell_after hb5 u8; have v9 := cell_after hb5 u9; rw [errW_none]; clear ha1) | (go_at_call 147; refine (gronx_inStepRange.calls k _ _ _ _ _ _ hr.out).mono ?_; rintro e wr ⟨rfl, ⟨nd3, rfl⟩⟩; clear hr))
 go_ret2
 exact ⟨by first | rfl | simp, by repeat (first | exact below_step (below_step (below_step (below_step hb1 hb2) hb3') hb4) hb5 | apply pw_below_drewN)⟩
set_option maxRecDepth 100000 in
set_option maxHeartbeats 800000 in
theorem rstep_wd (val step a b : Int) (s : ByteArray) (t : List Int) (k : Nat) (P Q : List ByteArray) (i1 i2 : Int) (hs : gronx_zzSplit.f k s ⟨#[47]⟩ = some P) (hP : P.length = 2) (ha : strconv_Atoi.f (rdOf ByteArray.empty P 1) = some (step, none)) (s0 : 1 ≤ step) (hi : gronx_zzIndex.f k s ⟨#[42, 47]⟩ = some i1) (h1 : i1 ≠ 0) (hj : gronx_zzIndex.f k s ⟨#[48, 47]⟩ = some i2) (h2 : i2 ≠ 0) (hs2 : gronx_zzSplit.f k (rdOf ByteArray.empty P 0) ⟨#[45]⟩ = some Q) (hQ : Q.length = 2) (ha0 : strconv_Atoi.f (rdOf ByteArray.empty Q 0) = some (a, none)) (ha1 : strconv_Atoi.f (rdOf ByteArray.empty Q 1) = some (b, none)) (ht : t.length = 2) (hab : a ≤ b) (hlo : rd t 0 ≤ a) (hhi : b ≤ rd t 1) (a6 : a ≤ 6) (hv : val ≠ 0) (r : Bool) (hr : gronx_inStepRange.f k val a b step = some r) : InC 134 val s t true r := by
 intro A cc w hC hcc
 have hs := Aside0.mk hs
 have ha := Aside0.mk ha
 have hi := Aside0.mk hi
 have hj := Aside0.mk hj
 have hs2 := Aside0.mk hs2
 have ha0 := Aside0.mk ha0
 have ha1 := Aside0.mk ha1
 have hr := Aside0.mk hr
 obtain ⟨ab, rfl, u0, u1⟩ := two_int hC rfl (by omega)
 have qi0 : (0 < t.length) = True := eq_true (by omega)
 have qi1 : (0 < (t.length : Int)) = True := eq_true (by omega)
 have qi2 : (1 < t.length) = True := eq_true (by omega)
 have qi3 : (1 < (t.length : Int)) = True := eq_true (by omega)
 have qp0 : (1 < P.length) = True := eq_true (by omega)
 have qp1 : (1 < (P.length : Int)) = True := eq_true (by omega)
 have qp2 : (0 < P.length) = True := eq_true (by omega)
 have qp3 : (0 < (P.length : Int)) = True := eq_true (by omega)
 have qq0 : (1 < Q.length) = True := eq_true (by omega)
 have qq1 : (1 < (Q.length : Int)) = True := eq_true (by omega)
 have qq2 : (0 < Q.length) = True := eq_true (by omega)
 have qq3 : (0 < (Q.length : Int)) = True := eq_true (by omega)
 have n0 : ¬ step ≤ 0 := by omega
 have n1 : (i1 == 0) = false := beq_eq_false_iff_ne.mpr h1
 have n2 : (i2 == 0) = false := beq_eq_false_iff_ne.mpr h2
 generalize rd t 0 = lo at *
 generalize rd t 1 = hi' at *
 have n3 : ¬ b < a := by omega
 have n4 : ¬ a < lo := by omega
 have n5 : ¬ hi' < b := by omega
 have n6 : (a == 7) = false := beq_eq_false_iff_ne.mpr (by omega)
 have n7 : (val == 0) = false := beq_eq_false_iff_ne.mpr hv
 go_enter Tryz.func134, Tryz.ntmps134
 go_wp2_with (first | (go_at_call 62; refine (gronx_zzSplit.calls k _ _ _ _ hs.out).mono ?_; rintro e w1 ⟨v0, rfl, hR, hb1⟩; obtain ⟨A1, c1, rfl⟩ := Kd.R_slice hR; obtain ⟨ad, rfl, y0, y1⟩ := two_at (Kd.R_reads' hR).2.2 rfl (by omega); have u2 := cell_after hb1 u0; have u3 := cell_after hb1 u1; clear hs) | (go_at_call 136; refine (strconv_Atoi.calls _ _ _ _ ha.out).mono ?_; rintro e w2 ⟨rfl, hb2⟩; have u4 := cell_after hb2 u2; have u5 := cell_after hb2 u3; have y2 := cell_after hb2 y0; rw [errW_none]; clear ha) | (go_at_call 50; refine (gronx_zzIndex.calls k _ _ _ _ hi.out).mono ?_; rintro e wz ⟨rfl, ⟨nd, rfl⟩⟩; clear hi) | (go_at_call 50; refine (gronx_zzIndex.calls k _ _ _ _ hj.out).mono ?_; rintro e wz ⟨rfl, ⟨nd2, rfl⟩⟩; clear hj) | (go_at_call 62; refine (gronx_zzSplit.calls k _ _ _ _ hs2.out).mono ?_; rintro e w3 ⟨v2, rfl, hR2, hb3⟩; obtain ⟨A2, c2, rfl⟩ := Kd.R_slice hR2; obtain ⟨ae, rfl, z0, z1⟩ := two_at (Kd.R_reads' hR2).2.2 rfl (by omega); have hb3' : Below w2.heap.size w2 w3 := below_step (by repeat (first | exact Below.refl _ _ | apply pw_below_drewN)) hb3; have u6 := cell_after hb3' u4; have u7 := cell_after hb3' u5; clear hs2) | (go_at_call 136; refine (strconv_Atoi.calls _ _ _ _ ha0.out).mono ?_; rintro e w4 ⟨rfl, hb4⟩; have u8 := cell_after hb4 u6; have u9 := cell_after hb4 u7; have z2 := cell_after hb4 z1; rw [errW_none]; clear ha0) | (go_at_call 136; refine (strconv_Atoi.calls _ _ _ _ ha1.out).mono ?_; rintro e w5 ⟨rfl, hb5⟩; have v8 := cell_after hb5 u8; have v9 := cell_after hb5 u9; rw [errW_none]; clear ha1) | (go_at_call 147; refine (gronx_inStepRange.calls k _ _ _ _ _ _ hr.out).mono ?_; rintro e wr ⟨rfl, ⟨nd3, rfl⟩⟩; clear hr))
 go_ret2
 exact ⟨by first | rfl | simp, by repeat (first | exact below_step (below_step (below_step (below_step hb1 hb2) hb3') hb4) hb5 | apply pw_below_drewN)⟩
set_option maxRecDepth 100000 in
set_option maxHeartbeats 800000 in
theorem rstep_zero_yes (step a b : Int) (s : ByteArray) (t : List Int) (k : Nat) (P Q : List ByteArray) (i1 i2 : Int) (hs : gronx_zzSplit.f k s ⟨#[47]⟩ = some P) (hP : P.length = 2) (ha : strconv_Atoi.f (rdOf ByteArray.empty P 1) = some (step, none)) (s0 : 1 ≤ step) (hi : gronx_zzIndex.f k s ⟨#[42, 47]⟩ = some i1) (h1 : i1 ≠ 0) (hj : gronx_zzIndex.f k s ⟨#[48, 47]⟩ = some i2) (h2 : i2 ≠ 0) (hs2 : gronx_zzSplit.f k (rdOf ByteArray.empty P 0) ⟨#[45]⟩ = some Q) (hQ : Q.length = 2) (ha0 : strconv_Atoi.f (rdOf ByteArray.empty Q 0) = some (a, none)) (ha1 : strconv_Atoi.f (rdOf ByteArray.empty Q 1) = some (b, none)) (ht : t.length = 2) (hab : a ≤ b) (hlo : rd t 0 ≤ a) (hhi : b ≤ rd t 1) (a6 : a ≤ 6) (hr : gronx_inStepRange.f k 0 a b step = some true) : InC 134 0 s t true true := by
 intro A cc w hC hcc
 have hs := Aside0.mk hs
 have ha := Aside0.mk ha
 have hi := Aside0.mk hi
 have hj := Aside0.mk hj
 have hs2 := Aside0.mk hs2
 have ha0 := Aside0.mk ha0
 have ha1 := Aside0.mk ha1
 have hr := Aside0.mk hr
 obtain ⟨ab, rfl, u0, u1⟩ := two_int hC rfl (by omega)
 have qi0 : (0 < t.length) = True := eq_true (by omega)
 have qi1 : (0 < (t.length : Int)) = True := eq_true (by omega)
 have qi2 : (1 < t.length) = True := eq_true (by omega)
 have qi3 : (1 < (t.length : Int)) = True := eq_true (by omega)
 have qp0 : (1 < P.length) = True := eq_true (by omega)
 have qp1 : (1 < (P.length : Int)) = True := eq_true (by omega)
 have qp2 : (0 < P.length) = True := eq_true (by omega)
 have qp3 : (0 < (P.length : Int)) = True := eq_true (by omega)
 have qq0 : (1 < Q.length) = True := eq_true (by omega)
 have qq1 : (1 < (Q.length : Int)) = True := eq_true (by omega)
 have qq2 : (0 < Q.length) = True := eq_true (by omega)
 have qq3 : (0 < (Q.length : Int)) = True := eq_true (by omega)
 have n0 : ¬ step ≤ 0 := by omega
 have n1 : (i1 == 0) = false := beq_eq_false_iff_ne.mpr h1
 have n2 : (i2 == 0) = false := beq_eq_false_iff_ne.mpr h2
 generalize rd t 0 = lo at *
 generalize rd t 1 = hi' at *
 have n3 : ¬ b < a := by omega
 have n4 : ¬ a < lo := by omega
 have n5 : ¬ hi' < b := by omega
 have n6 : (a == 7) = false := beq_eq_false_iff_ne.mpr (by omega)
 go_enter Tryz.func134, Tryz.ntmps134
 go_wp2_with (first | (go_at_call 62; refine (gronx_zzSplit.calls k _ _ _ _ hs.out).mono ?_; rintro e w1 ⟨v0, rfl, hR, hb1⟩; obtain ⟨A1, c1, rfl⟩ := Kd.R_slice hR; obtain ⟨ad, rfl, y0, y1⟩ := two_at (Kd.R_reads' hR).2.2 rfl (by omega); have u2 := cell_after hb1 u0; have u3 := cell_after hb1 u1; clear hs) | (go_at_call 136; refine (strconv_Atoi.calls _ _ _ _ ha.out).mono ?_; rintro e w2 ⟨rfl, hb2⟩; have u4 := cell_after hb2 u2; have u5 := cell_after hb2 u3; have y2 := cell_after hb2 y0; rw [errW_none]; clear ha) | (go_at_call 50; refine (gronx_zzIndex.calls k _ _ _ _ hi.out).mono ?_; rintro e wz ⟨rfl, ⟨nd, rfl⟩⟩; clear hi) | (go_at_call 50; refine (gronx_zzIndex.calls k _ _ _ _ hj.out).mono ?_; rintro e wz ⟨rfl, ⟨nd2, rfl⟩⟩; clear hj) | (go_at_call 62; refine (gronx_zzSplit.calls k _ _ _ _ hs2.out).mono ?_; rintro e w3 ⟨v2, rfl, hR2, hb3⟩; obtain ⟨A2, c2, rfl⟩ := Kd.R_slice hR2; obtain ⟨ae, rfl, z0, z1⟩ := two_at (Kd.R_reads' hR2).2.2 rfl (by omega); have hb3' : Below w2.heap.size w2 w3 := below_step (by repeat (first | exact Below.refl _ _ | apply pw_below_drewN)) hb3; have u6 := cell_after hb3' u4; have u7 := cell_after hb3' u5; clear hs2) | (go_at_call 136; refine (strconv_Atoi.calls _ _ _ _ ha0.out).mono ?_; rintro e w4 ⟨rfl, hb4⟩; have u8 := cell_after hb4 u6; have u9 := cell_after hb4 u7; have z2 := cell_after hb4 z1; rw [errW_none]; clear ha0) | (go_at_call 136; refine (strconv_Atoi.calls _ _ _ _ ha1.out).mono ?_; rintro e w5 ⟨rfl, hb5⟩; have v8 := cell_after hb5 u8; have v9 := cell_after hb5 u9; rw [errW_none]; clear ha1) | (go_at_call 147; refine (gronx_inStepRange.calls k _ _ _ _ _ _ hr.out).mono ?_; rintro e wr ⟨rfl, ⟨nd3, rfl⟩⟩; clear hr))
 go_ret2
 exact ⟨by first | rfl | simp, by repeat (first | exact below_step (below_step (below_step (below_step hb1 hb2) hb3') hb4) hb5 | apply pw_below_drewN)⟩
set_option maxRecDepth 100000 in
set_option maxHeartbeats 800000 in
theorem rstep_zero_no (step a b : Int) (s : ByteArray) (t : List Int) (k : Nat) (P Q : List ByteArray) (i1 i2 : Int) (hs : gronx_zzSplit.f k s ⟨#[47]⟩ = some P) (hP : P.length = 2) (ha : strconv_Atoi.f (rdOf ByteArray.empty P 1) = some (step, none)) (s0 : 1 ≤ step) (hi : gronx_zzIndex.f k s ⟨#[42, 47]⟩ = some i1) (h1 : i1 ≠ 0) (hj : gronx_zzIndex.f k s ⟨#[48, 47]⟩ = some i2) (h2 : i2 ≠ 0) (hs2 : gronx_zzSplit.f k (rdOf ByteArray.empty P 0) ⟨#[45]⟩ = some Q) (hQ : Q.length = 2) (ha0 : strconv_Atoi.f (rdOf ByteArray.empty Q 0) = some (a, none)) (ha1 : strconv_Atoi.f (rdOf ByteArray.empty Q 1) = some (b, none)) (ht : t.length = 2) (hab : a ≤ b) (hlo : rd t 0 ≤ a) (hhi : b ≤ rd t 1) (a6 : a ≤ 6) (r : Bool) (hr : gronx_inStepRange.f k 0 a b step = some false) (hr7 : gronx_inStepRange.f k 7 a b step = some r) : InC 134 0 s t true r := by
 intro A cc w hC hcc
 have hs := Aside0.mk hs
 have ha := Aside0.mk ha
 have hi := Aside0.mk hi
 have hj := Aside0.mk hj
 have hs2 := Aside0.mk hs2
 have ha0 := Aside0.mk ha0
 have ha1 := Aside0.mk ha1
 have hr := Aside0.mk hr
 have hr7 := Aside0.mk hr7
 obtain ⟨ab, rfl, u0, u1⟩ := two_int hC rfl (by omega)
 have qi0 : (0 < t.length) = True := eq_true (by omega)
 have qi1 : (0 < (t.length : Int)) = True := eq_true (by omega)
 have qi2 : (1 < t.length) = True := eq_true (by omega)
 have qi3 : (1 < (t.length : Int)) = True := eq_true (by omega)
 have qp0 : (1 < P.length) = True := eq_true (by omega)
 have qp1 : (1 < (P.length : Int)) = True := eq_true (by omega)
 have qp2 : (0 < P.length) = True := eq_true (by omega)
 have qp3 : (0 < (P.length : Int)) = True := eq_true (by omega)
 have qq0 : (1 < Q.length) = True := eq_true (by omega)
 have qq1 : (1 < (Q.length : Int)) = True := eq_true (by omega)
 have qq2 : (0 < Q.length) = True := eq_true (by omega)
 have qq3 : (0 < (Q.length : Int)) = True := eq_true (by omega)
 have n0 : ¬ step ≤ 0 := by omega
 have n1 : (i1 == 0) = false := beq_eq_false_iff_ne.mpr h1
 have n2 : (i2 == 0) = false := beq_eq_false_iff_ne.mpr h2
 generalize rd t 0 = lo at *
 generalize rd t 1 = hi' at *
 have n3 : ¬ b < a := by omega
 have n4 : ¬ a < lo := by omega
 have n5 : ¬ hi' < b := by omega
 have n6 : (a == 7) = false := beq_eq_false_iff_ne.mpr (by omega)
 go_enter Tryz.func134, Tryz.ntmps134
 go_wp2_with (first | (go_at_call 62; refine (gronx_zzSplit.calls k _ _ _ _ hs.out).mono ?_; rintro e w1 ⟨v0, rfl, hR, hb1⟩; obtain ⟨A1, c1, rfl⟩ := Kd.R_slice hR; obtain ⟨ad, rfl, y0, y1⟩ := two_at (Kd.R_reads' hR).2.2 rfl (by omega); have u2 := cell_after hb1 u0; have u3 := cell_after hb1 u1; clear hs) | (go_at_call 136; refine (strconv_Atoi.calls _ _ _ _ ha.out).mono ?_; rintro e w2 ⟨rfl, hb2⟩; have u4 := cell_after hb2 u2; have u5 := cell_after hb2 u3; have y2 := cell_after hb2 y0; rw [errW_none]; clear ha) | (go_at_call 50; refine (gronx_zzIndex.calls k _ _ _ _ hi.out).mono ?_; rintro e wz ⟨rfl, ⟨nd, rfl⟩⟩; clear hi) | (go_at_call 50; refine (gronx_zzIndex.calls k _ _ _ _ hj.out).mono ?_; rintro e wz ⟨rfl, ⟨nd2, rfl⟩⟩; clear hj) | (go_at_call 62; refine (gronx_zzSplit.calls k _ _ _ _ hs2.out).mono ?_; rintro e w3 ⟨v2, rfl, hR2, hb3⟩; obtain ⟨A2, c2, rfl⟩ := Kd.R_slice hR2; obtain ⟨ae, rfl, z0, z1⟩ := two_at (Kd.R_reads' hR2).2.2 rfl (by omega); have hb3' : Below w2.heap.size w2 w3 := below_step (by repeat (first | exact Below.refl _ _ | apply pw_below_drewN)) hb3; have u6 := cell_after hb3' u4; have u7 := cell_after hb3' u5; clear hs2) | (go_at_call 136; refine (strconv_Atoi.calls _ _ _ _ ha0.out).mono ?_; rintro e w4 ⟨rfl, hb4⟩; have u8 := cell_after hb4 u6; have u9 := cell_after hb4 u7; have z2 := cell_after hb4 z1; rw [errW_none]; clear ha0) | (go_at_call 136; refine (strconv_Atoi.calls _ _ _ _ ha1.out).mono ?_; rintro e w5 ⟨rfl, hb5⟩; have v8 := cell_after hb5 u8; have v9 := cell_after hb5 u9; rw [errW_none]; clear ha1) | (go_at_call 147; refine (gronx_inStepRange.calls k _ _ _ _ _ _ hr.out).mono ?_; rintro e wr ⟨rfl, ⟨nd3, rfl⟩⟩; clear hr) | (go_at_call 147; refine (gronx_inStepRange.calls k _ _ _ _ _ _ hr7.out).mono ?_; rintro e wr ⟨rfl, ⟨nd4, rfl⟩⟩; clear hr7))
 go_ret2
 exact ⟨by first | rfl | simp, by repeat (first | exact below_step (below_step (below_step (below_step hb1 hb2) hb3') hb4) hb5 | apply pw_below_drewN)⟩
end Go.Proofs.YtemgofomhjabpaaGreatDoor.Core
namespace Go.Proofs.YtemgofomhjabpaaGreatDoor.Core
open Go.RowKit Go.Proofs.YtemgofomhjabpaaGreatDoorW.PrintWords
structure Moment' (x y mo d h mi s : Int) : Prop where
 date : DateOk y mo d
 clock : ClockOk h mi s
 ext : x = extOf y mo d h mi s
def posV (y mo d h mi s : Int) (pos : Int) : Int := if pos = 0 then s else if pos = 1 then mi else if pos = 2 then h else if pos = 3 then d else if pos = 4 then mo else if pos = 5 then wdI y mo d else y
section
variable {x y mo d h mi s : Int} (M : Moment' x y mo d h mi s)
include M
theorem Moment'.r0 : 62700000000 ≤ x := M.ext ▸ (ext_range M.date M.clock).1
theorem Moment'.r1 : x ≤ 66100000000 := M.ext ▸ (ext_range M.date M.clock).2
theorem Moment'.abs : x + 9223371966606163200 = absD y mo d * 86400 + (h * 3600 + mi * 60 + s) := by rw [M.ext]; unfold extOf; omega
theorem Moment'.days : gotime_absSeconds_days.f (x + 9223371966606163200) = some (absD y mo d) := M.ext ▸ days_ext M.date M.clock
theorem sec_m (w : World) : Calls Tryz.prog 128 #[.agg #[.int .u64 0, .int .i64 x, .pointer none]] w fun e w' => e = .returned (.int .i64 s) ∧ Below w.heap.size w w' := by
 have e : (x + 9223371966606163200) % 60 = s := by rw [M.abs]; have := M.clock.s0; have := M.clock.s1; omega
 have := second_w x w M.r0 M.r1
 rwa [e] at this
theorem min_m (w : World) : Calls Tryz.prog 129 #[.agg #[.int .u64 0, .int .i64 x, .pointer none]] w fun e w' => e = .returned (.int .i64 mi) ∧ Below w.heap.size w w' := by
 have e : (x + 9223371966606163200) % 3600 / 60 = mi := by rw [M.abs]; have := M.clock.s0; have := M.clock.s1; have := M.clock.m0; have := M.clock.m1; omega
 have := minute_w x w M.r0 M.r1
 rwa [e] at this
theorem hour_m (w : World) : Calls Tryz.prog 130 #[.agg #[.int .u64 0, .int .i64 x, .pointer none]] w fun e w' => e = .returned (.int .i64 h) ∧ Below w.heap.size w w' := by
 have e : (x + 9223371966606163200) % 86400 / 3600 = h := by rw [M.abs]; have := M.clock.s0; have := M.clock.s1; have := M.clock.m0; have := M.clock.m1; have := M.clock.h0; have := M.clock.h1; omega
 have := hour_w x w M.r0 M.r1
 rwa [e] at this
theorem day_m (w : World) : Calls Tryz.prog 109 #[.agg #[.int .u64 0, .int .i64 x, .pointer none]] w fun e w' => e = .returned (.int .i64 d) ∧ Below w.heap.size w w' :=
 day_w x _ _ _ _ _ d w M.r0 M.r1 ⟨M.days⟩ ⟨split_date M.date⟩ ⟨(aydSplit M.date).1⟩
theorem month_m (w : World) : Calls Tryz.prog 119 #[.agg #[.int .u64 0, .int .i64 x, .pointer none]] w fun e w' => e = .returned (.int .i64 mo) ∧ Below w.heap.size w w' :=
 month_w x _ _ _ _ _ _ mo d w M.r0 M.r1 ⟨M.days⟩ ⟨split_date M.date⟩ ⟨(aydSplit M.date).1⟩ ⟨(aydSplit M.date).2.1⟩ ⟨(aydSplit M.date).2.2⟩
theorem year_m (w : World) : Calls Tryz.prog 118 #[.agg #[.int .u64 0, .int .i64 x, .pointer none]] w fun e w' => e = .returned (.int .i64 y) ∧ Below w.heap.size w w' :=
 year_w x _ _ _ _ _ y w M.r0 M.r1 ⟨M.days⟩ ⟨split_date M.date⟩ ⟨(aydSplit M.date).2.1⟩ ⟨centuryYear M.date⟩
theorem weekday_m (w : World) : Calls Tryz.prog 131 #[.agg #[.int .u64 0, .int .i64 x, .pointer none]] w fun e w' => e = .returned (.int .i64 (wdI y mo d)) ∧ Below w.heap.size w w' :=
 weekday_w x _ _ w M.r0 M.r1 ⟨M.days⟩ ⟨weekday_date M.date⟩
end
set_option maxRecDepth 100000 in
theorem val_w {x y mo d h mi s : Int} (M : Moment' x y mo d h mi s) (pos : Nat) (hp : pos < 7) (w : World) :
  Calls Tryz.prog 114 #[.agg #[.int .u64 0, .int .i64 x, .pointer none], .int .i64 (pos : Int)] w fun e w' => e = .returned (.int .i64 (posV y mo d h mi s pos)) ∧ Below w.heap.size w w' := by
 have M := Aside0.mk M
 match pos, hp with
 | 0, _ =>
  go_enter Tryz.func114, Tryz.ntmps114
  go_wp2_with (go_at_call 128; refine (sec_m M.out _).mono ?_; rintro e w1 ⟨rfl, hb⟩)
  go_ret
  exact ⟨rfl, below_then (below_alloc (Below.refl _ _) _) (by simp) hb⟩
 | 1, _ =>
  go_enter Tryz.func114, Tryz.ntmps114
  go_wp2_with (go_at_call 129; refine (min_m M.out _).mono ?_; rintro e w1 ⟨rfl, hb⟩)
  go_ret
  exact ⟨rfl, below_then (below_alloc (Below.refl _ _) _) (by simp) hb⟩
 | 2, _ =>
  go_enter Tryz.func114, Tryz.ntmps114
  go_wp2_with (go_at_call 130; refine (hour_m M.out _).mono ?_; rintro e w1 ⟨rfl, hb⟩)
  go_ret
  exact ⟨rfl, below_then (below_alloc (Below.refl _ _) _) (by simp) hb⟩
 | 3, _ =>
  go_enter Tryz.func114, Tryz.ntmps114
  go_wp2_with (go_at_call 109; refine (day_m M.out _).mono ?_; rintro e w1 ⟨rfl, hb⟩)
  go_ret
  exact ⟨rfl, below_then (below_alloc (Below.refl _ _) _) (by simp) hb⟩
 | 4, _ =>
  go_enter Tryz.func114, Tryz.ntmps114
  go_wp2_with (go_at_call 119; refine (month_m M.out _).mono ?_; rintro e w1 ⟨rfl, hb⟩)
  go_ret
  exact ⟨rfl, below_then (below_alloc (Below.refl _ _) _) (by simp) hb⟩
 | 5, _ =>
  go_enter Tryz.func114, Tryz.ntmps114
  go_wp2_with (go_at_call 131; refine (weekday_m M.out _).mono ?_; rintro e w1 ⟨rfl, hb⟩)
  go_ret
  exact ⟨rfl, below_then (below_alloc (Below.refl _ _) _) (by simp) hb⟩
 | 6, _ =>
  go_enter Tryz.func114, Tryz.ntmps114
  go_wp2_with (go_at_call 118; refine (year_m M.out _).mono ?_; rintro e w1 ⟨rfl, hb⟩)
  go_ret
  exact ⟨rfl, below_then (below_alloc (Below.refl _ _) _) (by simp) hb⟩
theorem getRef_w (c : Nat) (x : Int) (w : World) (h0 : w.cell? ⟨c, 0, none⟩ = some (.int .u64 0)) (h1 : w.cell? ⟨c, 1, none⟩ = some (.int .i64 x)) (h2 : w.cell? ⟨c, 2, none⟩ = some (.pointer none)) :
  Calls Tryz.prog 112 #[.pointer (some ⟨c, 0, none⟩)] w fun e w' => e = .returned (.agg #[.int .u64 0, .int .i64 x, .pointer none]) ∧ Below w.heap.size w w' := by
 have hc : c < w.heap.size := World.block_lt_of_cell? w ⟨c, 0, none⟩ h0
 have hne : c ≠ w.heap.size := Nat.ne_of_lt hc
 have hne' : w.heap.size ≠ c := Nat.ne_of_gt hc
 go_enter Tryz.func112, Tryz.ntmps112
 go_wp2
 exact bodyPost_ret (v := .agg #[.int .u64 0, .int .i64 x, .pointer none]) (by simp [results, Tryz.results112, go_sem]) rfl ⟨rfl, (Below.refl _ _).alloc (Nat.le_refl _) _⟩
def SI (n : Nat) (y mo d h mi s : Int) (w' : World) : Prop := n + 1 < w'.heap.size ∧ w'.cell? ⟨n, 0, none⟩ = some (.int .i64 y) ∧ w'.cell? ⟨n, 1, none⟩ = some (.int .i64 mo) ∧ w'.cell? ⟨n, 2, none⟩ = some (.int .i64 d) ∧ w'.cell? ⟨n, 3, none⟩ = some (.int .i64 h) ∧ w'.cell? ⟨n, 4, none⟩ = some (.int .i64 mi) ∧ w'.cell? ⟨n, 5, none⟩ = some (.int .i64 s) ∧ w'.frozen? ⟨n + 1, 0, none⟩ = false ∧ w'.frozen? ⟨n + 1, 1, none⟩ = false ∧ w'.frozen? ⟨n + 1, 2, none⟩ = false ∧ (∃ v, w'.cell? ⟨n + 1, 0, none⟩ = some v) ∧ (∃ v, w'.cell? ⟨n + 1, 1, none⟩ = some v) ∧ (∃ v, w'.cell? ⟨n + 1, 2, none⟩ = some v)
theorem SI.below {n : Nat} {y mo d h mi s : Int} {a b : World} (hb : Below a.heap.size a b) (hS : SI n y mo d h mi s a) : SI n y mo d h mi s b := by
 obtain ⟨h0, h1, h2, h3, h4, h5, h6, h7, h8, h9, ⟨v0, k0⟩, ⟨v1, k1⟩, ⟨v2, k2⟩⟩ := hS
 exact ⟨Nat.lt_of_lt_of_le h0 hb.size, cell_after hb h1, cell_after hb h2, cell_after hb h3, cell_after hb h4, cell_after hb h5, cell_after hb h6, (hb.frozen h0).trans h7, (hb.frozen h0).trans h8, (hb.frozen h0).trans h9, ⟨v0, cell_after hb k0⟩, ⟨v1, cell_after hb k1⟩, ⟨v2, cell_after hb k2⟩⟩
theorem SI.cells {n : Nat} {y mo d h mi s : Int} {a : World} (hS : SI n y mo d h mi s a) : ∃ v0 v1 v2, a.cell? ⟨n + 1, 0, none⟩ = some v0 ∧ a.cell? ⟨n + 1, 1, none⟩ = some v1 ∧ a.cell? ⟨n + 1, 2, none⟩ = some v2 ∧ a.frozen? ⟨n + 1, 0, none⟩ = false ∧ a.frozen? ⟨n + 1, 1, none⟩ = false ∧ a.frozen? ⟨n + 1, 2, none⟩ = false := by
 obtain ⟨h0, h1, h2, h3, h4, h5, h6, h7, h8, h9, ⟨v0, k0⟩, ⟨v1, k1⟩, ⟨v2, k2⟩⟩ := hS
 exact ⟨v0, v1, v2, k0, k1, k2, h7, h8, h9⟩
theorem frozen_set {w : World} {a b : Addr} {v : Value} : (w.setCell a v).frozen? b = w.frozen? b := by simp
theorem set_some {w : World} {a b : Addr} {v u : Value} (h : w.cell? b = some u) : ∃ u', (w.setCell a v).cell? b = some u' := cell?_setCell_some h
theorem SI.set {n j : Nat} {v : Value} {y mo d h mi s : Int} {a : World} (hS : SI n y mo d h mi s a) : SI n y mo d h mi s (a.setCell ⟨n + 1, j, none⟩ v) := by
 obtain ⟨h0, h1, h2, h3, h4, h5, h6, h7, h8, h9, ⟨v0, k0⟩, ⟨v1, k1⟩, ⟨v2, k2⟩⟩ := hS
 exact ⟨by simpa using h0, (set_other (by simp)).trans h1, (set_other (by simp)).trans h2, (set_other (by simp)).trans h3, (set_other (by simp)).trans h4, (set_other (by simp)).trans h5, (set_other (by simp)).trans h6, frozen_set.trans h7, frozen_set.trans h8, frozen_set.trans h9, set_some k0, set_some k1, set_some k2⟩
theorem set3 {w4 : World} {g : Nat} {x0 x1 x2 a b c : Value} (h0 : w4.cell? ⟨g, 0, none⟩ = some x0) (h1 : w4.cell? ⟨g, 1, none⟩ = some x1) (h2 : w4.cell? ⟨g, 2, none⟩ = some x2) :
  (((w4.setCell ⟨g, 0, none⟩ a).setCell ⟨g, 1, none⟩ b).setCell ⟨g, 2, none⟩ c).cell? ⟨g, 0, none⟩ = some a ∧
  (((w4.setCell ⟨g, 0, none⟩ a).setCell ⟨g, 1, none⟩ b).setCell ⟨g, 2, none⟩ c).cell? ⟨g, 1, none⟩ = some b ∧
  (((w4.setCell ⟨g, 0, none⟩ a).setCell ⟨g, 1, none⟩ b).setCell ⟨g, 2, none⟩ c).cell? ⟨g, 2, none⟩ = some c := by
 have k0 : (w4.setCell ⟨g, 0, none⟩ a).cell? ⟨g, 0, none⟩ = some a := set_same h0
 have k1 : ((w4.setCell ⟨g, 0, none⟩ a).setCell ⟨g, 1, none⟩ b).cell? ⟨g, 0, none⟩ = some a := (set_other (by simp)).trans k0
 have k2 : ((w4.setCell ⟨g, 0, none⟩ a).setCell ⟨g, 1, none⟩ b).cell? ⟨g, 1, none⟩ = some b := set_same ((set_other (by simp)).trans h1)
 exact ⟨(set_other (by simp)).trans k1, (set_other (by simp)).trans k2, set_same ((set_other (by simp)).trans ((set_other (by simp)).trans h2))⟩
theorem utc_b (w : World) : Calls Tryz.prog 44 #[] w fun e w' => ∃ b, e = .returned (.pointer (some ⟨b, 0, none⟩)) ∧ w'.cell? ⟨b, 0, none⟩ = some (.bool true) ∧ w'.cell? ⟨b, 2, none⟩ = some (.slice none 0 0) ∧ Below w.heap.size w w' := by
 refine (utc_any w).mono ?_
 rintro e w' ⟨rfl, rfl⟩
 exact ⟨_, rfl, by simp [utcCells, go_sem], by simp [utcCells, go_sem], (Below.refl _ _).alloc (Nat.le_refl _) _⟩
theorem timeOf_w {y mo d h mi s : Int} (hd : DateOk y mo d) (hc : ClockOk h mi s) (w : World) :
  Calls Tryz.prog 33 #[.agg #[.int .i64 y, .int .i64 mo, .int .i64 d, .int .i64 h, .int .i64 mi, .int .i64 s]] w fun e w' => e = .returned (.agg #[.int .u64 0, .int .i64 (extOf y mo d h mi s), .pointer none]) ∧ Below w.heap.size w w' := by
 have hD : Aside0 (gotime_dateToAbsDays.f y mo d = some (absD y mo d)) := ⟨dateToAbs_eq y mo d hd.y0 hd.y1 hd.m0 hd.m1 hd.d0 (by have := hd.d1; have := (daysI_cases y mo hd.m0 hd.m1).1; omega)⟩
 have hr := Aside0.mk (absD_range hd)
 have hd := Aside0.mk hd
 have hc := Aside0.mk hc
 go_enter Tryz.func33, Tryz.ntmps33
 go_wp2
 go_region_held (fun w' => w.heap.size + 1 < w'.heap.size ∧ w'.cell? ⟨w.heap.size, 0, none⟩ = some (.int .i64 y) ∧ w'.cell? ⟨w.heap.size, 1, none⟩ = some (.int .i64 mo) ∧ w'.cell? ⟨w.heap.size, 2, none⟩ = some (.int .i64 d) ∧ w'.cell? ⟨w.heap.size, 3, none⟩ = some (.int .i64 h) ∧ w'.cell? ⟨w.heap.size, 4, none⟩ = some (.int .i64 mi) ∧ w'.cell? ⟨w.heap.size, 5, none⟩ = some (.int .i64 s) ∧ w'.frozen? ⟨w.heap.size + 1, 0, none⟩ = false ∧ w'.frozen? ⟨w.heap.size + 1, 1, none⟩ = false ∧ w'.frozen? ⟨w.heap.size + 1, 2, none⟩ = false ∧ (∃ v, w'.cell? ⟨w.heap.size + 1, 0, none⟩ = some v) ∧ (∃ v, w'.cell? ⟨w.heap.size + 1, 1, none⟩ = some v) ∧ (∃ v, w'.cell? ⟨w.heap.size + 1, 2, none⟩ = some v))
  (first | exact SI.below hb (by assumption) | exact SI.below hb1 (by assumption) | exact SI.set (SI.set (SI.set (by assumption))) | go_keep | (trace_state; fail)) (first | (go_at_call 44; refine (utc_b _).mono ?_; rintro e w1 ⟨b, rfl, hu0, hu2, hb1⟩) | (go_at_call 43; refine (date_w y mo d h mi s (absD y mo d) _ _ hd.out.m0 hd.out.m1 hc.out.h0 hc.out.h1 hc.out.m0 hc.out.m1 hc.out.s0 hc.out.s1 hD hr.out.1 hr.out.2 (by assumption) (by assumption)).mono ?_; rintro e w2 ⟨rfl, hb⟩; obtain ⟨v0, v1, v2, hk0, hk1, hk2, hf0, hf1, hf2⟩ := SI.cells (SI.below hb (by assumption))))
 rename_i hHeld
 clear hHeld
 obtain ⟨r0, r1, r2⟩ := set3 (a := .int .u64 0) (b := .int .i64 (absD y mo d * 86400 + (h * 3600 + mi * 60 + s) + -9223371966606163200)) (c := .pointer none) hk0 hk1 hk2
 go_wp2
 refine bodyPost_ret (v := .agg #[.int .u64 0, .int .i64 (absD y mo d * 86400 + (h * 3600 + mi * 60 + s) + -9223371966606163200), .pointer none]) (by simp [results, Tryz.results33, go_sem, r0, r1, r2]) rfl ⟨ret_time (by unfold extOf; omega), ?_⟩
 have b1 : Below w.heap.size w w1 := Below.trans (by repeat (first | exact Below.refl _ _ | apply below_alloc | apply below_drew1)) (hb1.mono (by simp; omega))
 have b2 : Below w.heap.size w w2 := b1.trans (hb.mono b1.size)
 exact ((b2.setCell (Nat.le_succ _) _).setCell (Nat.le_succ _) _).setCell (Nat.le_succ _) _
end Go.Proofs.YtemgofomhjabpaaGreatDoor.Core
namespace Go.Proofs.YtemgofomhjabpaaGreatDoor.Core
open Go.RowKit Go.Proofs.YtemgofomhjabpaaGreatDoorW.PrintWords Go.Proofs.YtemgofomhjabpaaGreatDoorW.PrintLast Go.Proofs.YtemgofomhjabpaaGreatDoorW.PrintMore
attribute [local go_sem] max2_int min2_int max_two min_two max_three min_three max_four min_four   -- for this text's walks alone
set_option linter.unusedVariables false
set_option linter.unusedSimpArgs false
mutual
def gronx_zzContainsAny.l0 : Nat → ByteArray → ByteArray → Int → Option (Bool)
 | 0, _, _, _ => none
 | k + 1, x0, x1, x5 => if x5 < (x0.size : Int) then (gronx_zzContainsAny.l1 k x0 x1 x5 0) else (some false)
def gronx_zzContainsAny.l1 : Nat → ByteArray → ByteArray → Int → Int → Option (Bool)
 | 0, _, _, _, _ => none
 | k + 1, x0, x1, x5, x6 => if x6 < (x1.size : Int) then (if 0 ≤ x5 then (if x5 < (x0.size : Int) then (if 0 ≤ x6 then (if (bt x0 x5) = (bt x1 x6) then (some true) else (gronx_zzContainsAny.l1 k x0 x1 x5 (wrap64 (x6 + 1)))) else (none)) else (none)) else (none)) else (gronx_zzContainsAny.l0 k x0 x1 (wrap64 (x5 + 1)))
end
def gronx_zzContainsAny.f (k : Nat) (a0 : ByteArray) (a1 : ByteArray) : Option (Bool) := gronx_zzContainsAny.l0 k a0 a1 0
set_option maxHeartbeats 8000000 in
set_option maxRecDepth 100000 in
theorem gronx_zzContainsAny.calls (k : Nat) (a0 : ByteArray) (a1 : ByteArray) (r : Bool) (w : World) (h : gronx_zzContainsAny.f k a0 a1 = some r) :
  Calls Tryz.prog 116 #[.string a0, .string a1] w fun e w' => e = .returned (.bool r) ∧ Drawn0 w w' := by
 have H : (gronx_zzContainsAny.l0 k a0 a1 0) = some r := h
 clear h
 have H' := Aside0.mk H
 clear H
 go_enter Tryz.func116, Tryz.ntmps116
 go_wp2
 repeat (go_quiet (fail); try go_wp2)
 go_loopg [5] k (fun kq v5 w' => ∃ (x5_1 : Int), v5 = .int .i64 x5_1 ∧ Aside0 (gronx_zzContainsAny.l0 kq a0 a1 x5_1 = some r) ∧ Aside0 (kq ≤ k) ∧ Drawn0 w w')
 case atStart => exact ⟨(0), (by first | rfl | (simp; done) | (simp [*]; done)), H', ⟨Nat.le_refl _⟩, by repeat (first | exact Drawn0.refl _ | apply Drawn0.step)⟩
 case round =>
  clear H'
  try clear c1
  try clear p2
  obtain ⟨x5_1, rfl, HA, HK1, ⟨m1, rfl⟩⟩ := hrel
  cases gk with
  | zero => exact absurd HA.out (by simp [gronx_zzContainsAny.l0])
  | succ k1 =>
   have H := HA.out
   clear HA
   simp only [gronx_zzContainsAny.l0] at H
   by_cases c3 : x5_1 < (a0.size : Int)
   ·rw [if_pos c3] at H
    have c3b0 : decide (x5_1 < (a0.size : Int)) = true := decide_eq_true c3
    clear c3
    have H' := Aside0.mk H
    clear H
    go_wp2
    repeat (go_quiet (fail); try go_wp2)
    go_loopg [6] k1 (fun kq v6 w' => ∃ (x6_2 : Int), v6 = .int .i64 x6_2 ∧ Aside0 (gronx_zzContainsAny.l1 kq a0 a1 x5_1 x6_2 = some r) ∧ Aside0 (kq ≤ k1) ∧ Drawn0 w w')
    case atStart => exact ⟨(0), (by first | rfl | (simp; done) | (simp [*]; done)), H', ⟨Nat.le_refl _⟩, by repeat (first | exact Drawn0.refl _ | apply Drawn0.step)⟩
    case round =>
     clear H'
     try clear c1
     try clear p2
     try clear c3
     try clear c3b0
     try clear p2
     obtain ⟨x6_2, rfl, HA, HK2, ⟨m2, rfl⟩⟩ := hrel
     cases gk with
     | zero => exact absurd HA.out (by simp [gronx_zzContainsAny.l1])
     | succ k2 =>
      have H := HA.out
      clear HA
      simp only [gronx_zzContainsAny.l1] at H
      by_cases c4 : x6_2 < (a1.size : Int)
      ·rw [if_pos c4] at H
       have c4b0 : decide (x6_2 < (a1.size : Int)) = true := decide_eq_true c4
       clear c4
       by_cases c5 : 0 ≤ x5_1
       ·rw [if_pos c5] at H
        have c5b0 : decide (0 ≤ x5_1) = true := decide_eq_true c5
        clear c5
        by_cases c6 : x5_1 < (a0.size : Int)
        ·rw [if_pos c6] at H
         have c6b0 : decide (x5_1 < (a0.size : Int)) = true := decide_eq_true c6
         clear c6
         by_cases c8 : 0 ≤ x6_2
         ·rw [if_pos c8] at H
          have c8b0 : decide (0 ≤ x6_2) = true := decide_eq_true c8
          clear c8
          by_cases c10 : (bt a0 x5_1) = (bt a1 x6_2)
          ·rw [if_pos c10] at H
           have c10b0 : ((bt a0 x5_1) == (bt a1 x6_2)) = true := beq_iff_eq.mpr c10
           have c10b1 : ((bt a0 x5_1) != (bt a1 x6_2)) = false := bne_eq_false_iff_eq.mpr c10
           clear c10
           obtain rfl := Option.some.inj H
           have p7 : 0 ≤ (x5_1 : Int) := of_decide_eq_true (by first | (with_reducible assumption) | assumption)
           have q7 : x5_1 < (a0.size : Int) := of_decide_eq_true (by first | (with_reducible assumption) | assumption)
           have hx7 := bt_at a0 x5_1
           replace p7 := eq_true p7
           replace q7 := eq_true q7
           have p9 : 0 ≤ (x6_2 : Int) := of_decide_eq_true (by first | (with_reducible assumption) | assumption)
           have q9 : x6_2 < (a1.size : Int) := of_decide_eq_true (by first | (with_reducible assumption) | assumption)
           have hx9 := bt_at a1 x6_2
           replace p9 := eq_true p9
           replace q9 := eq_true q9
           go_wp2
           repeat (go_quiet (fail); try go_wp2)
           go_ret
           exact ⟨by first | rfl | (simp; done) | (simp [*]; done), by repeat (first | exact Drawn0.refl _ | apply Drawn0.step)⟩
          ·rw [if_neg c10] at H
           have c10b0 : ((bt a0 x5_1) == (bt a1 x6_2)) = false := beq_eq_false_iff_ne.mpr c10
           have c10b1 : ((bt a0 x5_1) != (bt a1 x6_2)) = true := bne_iff_ne.mpr c10
           have H' := Aside0.mk H
           clear H
           have p7 : 0 ≤ (x5_1 : Int) := of_decide_eq_true (by first | (with_reducible assumption) | assumption)
           have q7 : x5_1 < (a0.size : Int) := of_decide_eq_true (by first | (with_reducible assumption) | assumption)
           have hx7 := bt_at a0 x5_1
           replace p7 := eq_true p7
           replace q7 := eq_true q7
           have p9 : 0 ≤ (x6_2 : Int) := of_decide_eq_true (by first | (with_reducible assumption) | assumption)
           have q9 : x6_2 < (a1.size : Int) := of_decide_eq_true (by first | (with_reducible assumption) | assumption)
           have hx9 := bt_at a1 x6_2
           replace p9 := eq_true p9
           replace q9 := eq_true q9
           go_wp2
           repeat (go_quiet (fail); try go_wp2)
           go_roundg k2
           case measure => have := HK1.out; have := HK2.out; omega
           case rel => exact ⟨(wrap64 (x6_2 + 1)), (by first | rfl | (simp; done) | (simp [*]; done)), H', ⟨by have := HK1.out; have := HK2.out; omega⟩, by repeat (first | exact Drawn0.refl _ | apply Drawn0.step)⟩
         ·rw [if_neg c8] at H
          exact absurd H (by simp)
        ·rw [if_neg c6] at H
         exact absurd H (by simp)
       ·rw [if_neg c5] at H
        exact absurd H (by simp)
      ·rw [if_neg c4] at H
       have c4b0 : decide (x6_2 < (a1.size : Int)) = false := decide_eq_false c4
       clear c4
       have H' := Aside0.mk H
       clear H
       go_wp2
       repeat (go_quiet (fail); try go_wp2)
       go_roundg k2
       case measure => have := HK1.out; have := HK2.out; omega
       case rel => exact ⟨(wrap64 (x5_1 + 1)), (by first | rfl | (simp; done) | (simp [*]; done)), H', ⟨by have := HK1.out; have := HK2.out; omega⟩, by repeat (first | exact Drawn0.refl _ | apply Drawn0.step)⟩
   ·rw [if_neg c3] at H
    have c3b0 : decide (x5_1 < (a0.size : Int)) = false := decide_eq_false c3
    clear c3
    obtain rfl := Option.some.inj H
    go_wp2
    repeat (go_quiet (fail); try go_wp2)
    go_ret
    exact ⟨by first | rfl | (simp; done) | (simp [*]; done), by repeat (first | exact Drawn0.refl _ | apply Drawn0.step)⟩
end Go.Proofs.YtemgofomhjabpaaGreatDoor.Core
namespace Go.Proofs.YtemgofomhjabpaaGreatDoor.Core
open Go.RowKit Go.Proofs.YtemgofomhjabpaaGreatDoorW.PrintWords
def ErrV (er : Bool) (ev : Value) : Prop := (er = false ∧ ev = .nilIface) ∨ (er = true ∧ ∃ t v, ev = .iface t v)
def OffC (c : Nat) (val : Int) (pos : Nat) (o : ByteArray) (b er : Bool) : Prop := ∀ w, Calls Tryz.prog 117 #[.pointer (some ⟨c, 0, none⟩), .string o, .int .i64 val, .int .i64 (pos : Int)] w fun e w' => ∃ ev, e = .returned (.tuple #[.bool b, ev]) ∧ ErrV er ev ∧ Below w.heap.size w w'
theorem ErrV.nil {ev : Value} (h : ErrV false ev) : ev = .nilIface := by rcases h with ⟨_, h⟩ | ⟨h, _⟩ <;> simp_all
theorem ErrV.err {ev : Value} (h : ErrV true ev) : ∃ t v, ev = .iface t v := by rcases h with ⟨h, _⟩ | ⟨_, h⟩ <;> simp_all
def DueL (c : Nat) (val : Int) (pos : Nat) : List ByteArray → Bool → Bool → Prop
 | [], b, er => b = false ∧ er = false
 | o :: t, b, er => ∃ b1 e1, OffC c val pos o b1 e1 ∧ (if b1 = true ∨ e1 = true then b = b1 ∧ er = e1 else DueL c val pos t b er)
theorem rdOf_nat (xs : List ByteArray) (j : Nat) (h : j < xs.length) : rdOf ByteArray.empty xs (j : Int) = xs[j] := by simp [rdOf, h]
def SX (n : Nat) (x : Int) (w' : World) : Prop := n < w'.heap.size ∧ w'.cell? ⟨n, 0, none⟩ = some (.int .u64 0) ∧ w'.cell? ⟨n, 1, none⟩ = some (.int .i64 x) ∧ w'.cell? ⟨n, 2, none⟩ = some (.pointer none)
theorem SX.below {n : Nat} {x : Int} {a b : World} (hb : Below a.heap.size a b) (hS : SX n x a) : SX n x b := ⟨Nat.lt_of_lt_of_le hS.1 hb.size, cell_after hb hS.2.1, cell_after hb hS.2.2.1, cell_after hb hS.2.2.2⟩
set_option maxRecDepth 100000 in
theorem ck_other (c : Nat) {x y mo d h mi s : Int} (M : Moment' x y mo d h mi s) (seg : ByteArray) (pos : Nat) (hp : pos < 7) (h3 : pos ≠ 3) (h5 : pos ≠ 5) (k : Nat) (offs : List ByteArray) (hs : gronx_zzSplit.f k seg ⟨#[44]⟩ = some offs) (hn : offs.length < 1000000)
  (b er : Bool) (hD : DueL c (posV y mo d h mi s pos) pos offs b er) (w : World) (hc0 : w.cell? ⟨c, 0, none⟩ = some (.int .u64 0)) (hc1 : w.cell? ⟨c, 1, none⟩ = some (.int .i64 x)) (hc2 : w.cell? ⟨c, 2, none⟩ = some (.pointer none)) :
  Calls Tryz.prog 111 #[.pointer (some ⟨c, 0, none⟩), .string seg, .int .i64 (pos : Int)] w fun e w' => ∃ ev, e = .returned (.tuple #[.bool b, ev]) ∧ ErrV er ev ∧ Below w.heap.size w w' := by
 have e3 : ((pos : Int) == 3) = false := by simp; omega
 have e5 : ((pos : Int) == 5) = false := by simp; omega
 have M := Aside0.mk M
 have hs := Aside0.mk hs
 have hD := Aside0.mk hD
 have hp := Aside0.mk hp
 go_enter Tryz.func111, Tryz.ntmps111
 go_wp2_with (go_at_call 112; refine (getRef_w c x _ hc0 hc1 hc2).mono ?_; rintro e w1 ⟨rfl, hb1⟩)
 go_region_held (fun w' => w1.heap.size < w'.heap.size ∧ w'.cell? ⟨w1.heap.size, 0, none⟩ = some (.int .u64 0) ∧ w'.cell? ⟨w1.heap.size, 1, none⟩ = some (.int .i64 x) ∧ w'.cell? ⟨w1.heap.size, 2, none⟩ = some (.pointer none))
  (first | exact SX.below hb2 (by assumption) | exact SX.below hb3 (by assumption) | go_keep | (trace_state; fail)) (first | (go_at_call 114; refine (val_w M.out pos hp.out _).mono ?_; rintro e w2 ⟨rfl, hb2⟩) | (go_at_call 115; refine (location_any x _).mono ?_; rintro e w3 ⟨bl, rfl, hlo, hlu, hb3⟩))
 rename_i hHeld
 clear hHeld
 have HB : Below w.heap.size w w3 := (below_step (below_step (below_drew1 (below_alloc hb1 _)) hb2) hb3)
 have HB := Aside0.mk HB
 clear hb1 hb2 hb3 hlo hlu hc0 hc1 hc2
 go_wp2_with (go_at_call 62; refine (gronx_zzSplit.calls k seg ⟨#[44]⟩ offs _ hs.out).mono ?_; rintro e w4 ⟨v0, rfl, hR, hb4⟩; obtain ⟨A, cc, rfl⟩ := Kd.R_slice hR)
 have HR := Aside0.mk (Kd.R_reads' hR).2.2
 have HB4 := Aside0.mk (below_step HB.out hb4)
 clear hR hb4 HB
 go_loopg [31] offs.length (fun kq v31 w' => ∃ (j : Nat), v31 = .int .i64 (j : Int) ∧ Aside0 (DueL c (posV y mo d h mi s pos) pos (offs.drop j) b er) ∧ Aside0 (kq + j = offs.length) ∧ Aside0 (Below w4.heap.size w4 w'))
 case atStart => exact ⟨0, rfl, hD, ⟨rfl⟩, ⟨by repeat (first | exact Below.refl _ _ | apply below_drew1 | apply pw_below_drewN)⟩⟩
 case round =>
  clear hD
  obtain ⟨j, rfl, HD, HK, HW⟩ := hrel
  by_cases hj : j < offs.length
  ·have q : ((j : Int) < (offs.length : Int)) := by omega
   have p0 : 0 ≤ (j : Int) := by omega
   have q0 : decide ((j : Int) < (offs.length : Int)) = true := decide_eq_true q
   obtain ⟨ad, rfl, hx⟩ := Kd.at_string HR.out (j : Int) p0 q
   replace hx := cell_after HW.out hx
   rw [rdOf_nat _ _ hj, Int.toNat_natCast] at hx
   have HD' := HD.out
   rw [List.drop_eq_getElem_cons hj] at HD'
   obtain ⟨b1, e1, hoff, hif⟩ := HD'
   have hoff := Aside0.mk hoff
   have hif := Aside0.mk hif
   clear HD
   have hb : ∀ W, Below W.heap.size W W := fun W => Below.refl _ _
   cases b1 with
   | true =>
    obtain ⟨rfl, rfl⟩ : b = true ∧ er = e1 := by have := hif.out; simpa using this
    go_wp2_with (go_at_call 117; refine (hoff.out _).mono ?_; rintro e w5 ⟨ev, rfl, hev, hb5⟩)
    go_ret2
    exact ⟨ev, rfl, hev, below_step (below_step HB4.out HW.out) hb5⟩
   | false =>
    cases e1 with
    | true =>
     obtain ⟨rfl, rfl⟩ : b = false ∧ er = true := by have := hif.out; simpa using this
     go_wp2_with (go_at_call 117; refine (hoff.out _).mono ?_; rintro e w5 ⟨ev, rfl, hev, hb5⟩; obtain ⟨te, ve, rfl⟩ := ErrV.err hev)
     go_ret2
     exact ⟨_, rfl, hev, below_step (below_step HB4.out HW.out) hb5⟩
    | false =>
     have hr : DueL c (posV y mo d h mi s pos) pos (offs.drop (j + 1)) b er := by have := hif.out; simpa using this
     have hr := Aside0.mk hr
     go_wp2_with (go_at_call 117; refine (hoff.out _).mono ?_; rintro e w5 ⟨ev, rfl, hev, hb5⟩; obtain rfl := ErrV.nil hev)
     go_roundg (gk - 1)
     case measure => have := HK.out; omega
     case rel => exact ⟨j + 1, by simp, hr, ⟨by have := HK.out; omega⟩, ⟨by repeat (first | exact below_step HW.out hb5 | apply below_drew1 | apply pw_below_drewN)⟩⟩
  ·have q0 : decide ((j : Int) < (offs.length : Int)) = false := decide_eq_false (by omega)
   have HD' := HD.out
   rw [List.drop_eq_nil_of_le (by omega)] at HD'
   obtain ⟨rfl, rfl⟩ := HD'
   go_wp2
   go_ret2
   exact ⟨_, rfl, .inl ⟨rfl, rfl⟩, below_step HB4.out HW.out⟩
end Go.Proofs.YtemgofomhjabpaaGreatDoor.Core
namespace Go.Proofs.YtemgofomhjabpaaGreatDoor.Core
open Go.RowKit Go.Proofs.YtemgofomhjabpaaGreatDoorW.PrintWords
set_option maxRecDepth 100000 in
set_option maxHeartbeats 800000 in
theorem range_in (val a b : Int) (s : ByteArray) (t : List Int) (k : Nat) (Q : List ByteArray) (hs2 : gronx_zzSplit.f k s ⟨#[45]⟩ = some Q) (hQ : Q.length = 2) (ha0 : strconv_Atoi.f (rdOf ByteArray.empty Q 0) = some (a, none)) (ha1 : strconv_Atoi.f (rdOf ByteArray.empty Q 1) = some (b, none)) (ht : t.length = 2) (hab : a ≤ b) (hlo : rd t 0 ≤ a) (hhi : b ≤ rd t 1) (hv : a ≤ val)  : InC 135 val s t false (decide (val ≤ b)) := by
 intro A cc w hC hcc
 have hs2 := Aside0.mk hs2
 have ha0 := Aside0.mk ha0
 have ha1 := Aside0.mk ha1
 obtain ⟨ab, rfl, u0, u1⟩ := two_int hC rfl (by omega)
 have qi0 : (0 < t.length) = True := eq_true (by omega)
 have qi1 : (0 < (t.length : Int)) = True := eq_true (by omega)
 have qi2 : (1 < t.length) = True := eq_true (by omega)
 have qi3 : (1 < (t.length : Int)) = True := eq_true (by omega)
 have qq0 : (1 < Q.length) = True := eq_true (by omega)
 have qq1 : (1 < (Q.length : Int)) = True := eq_true (by omega)
 have qq2 : (0 < Q.length) = True := eq_true (by omega)
 have qq3 : (0 < (Q.length : Int)) = True := eq_true (by omega)
 generalize rd t 0 = lo at *
 generalize rd t 1 = hi' at *
 have n3 : ¬ b < a := by omega
 have n4 : ¬ a < lo := by omega
 have n5 : ¬ hi' < b := by omega
 have n6 : ¬ b < lo := by omega
 have n7 : ¬ hi' < a := by omega
 go_enter Tryz.func135, Tryz.ntmps135
 go_wp2_with (first | (go_at_call 62; refine (gronx_zzSplit.calls k _ _ _ _ hs2.out).mono ?_; rintro e w3 ⟨v2, rfl, hR2, hb3⟩; obtain ⟨A2, c2, rfl⟩ := Kd.R_slice hR2; obtain ⟨ae, rfl, z0, z1⟩ := two_at (Kd.R_reads' hR2).2.2 rfl (by omega); have u6 := cell_after hb3 u0; have u7 := cell_after hb3 u1; clear hs2) | (go_at_call 136; refine (strconv_Atoi.calls _ _ _ _ ha0.out).mono ?_; rintro e w4 ⟨rfl, hb4⟩; have u8 := cell_after hb4 u6; have u9 := cell_after hb4 u7; have z2 := cell_after hb4 z1; rw [errW_none]; clear ha0) | (go_at_call 136; refine (strconv_Atoi.calls _ _ _ _ ha1.out).mono ?_; rintro e w5 ⟨rfl, hb5⟩; have v8 := cell_after hb5 u8; have v9 := cell_after hb5 u9; rw [errW_none]; clear ha1))
 go_ret2
 exact ⟨by first | rfl | simp [*], by repeat (first | exact below_step (below_step hb3 hb4) hb5 | apply pw_below_drewN)⟩
set_option maxRecDepth 100000 in
set_option maxHeartbeats 800000 in
theorem range_out (val a b : Int) (s : ByteArray) (t : List Int) (k : Nat) (Q : List ByteArray) (hs2 : gronx_zzSplit.f k s ⟨#[45]⟩ = some Q) (hQ : Q.length = 2) (ha0 : strconv_Atoi.f (rdOf ByteArray.empty Q 0) = some (a, none)) (ha1 : strconv_Atoi.f (rdOf ByteArray.empty Q 1) = some (b, none)) (ht : t.length = 2) (hab : a ≤ b) (hlo : rd t 0 ≤ a) (hhi : b ≤ rd t 1) (hv0 : ¬ a ≤ val)  : InC 135 val s t false false := by
 intro A cc w hC hcc
 have hs2 := Aside0.mk hs2
 have ha0 := Aside0.mk ha0
 have ha1 := Aside0.mk ha1
 obtain ⟨ab, rfl, u0, u1⟩ := two_int hC rfl (by omega)
 have qi0 : (0 < t.length) = True := eq_true (by omega)
 have qi1 : (0 < (t.length : Int)) = True := eq_true (by omega)
 have qi2 : (1 < t.length) = True := eq_true (by omega)
 have qi3 : (1 < (t.length : Int)) = True := eq_true (by omega)
 have qq0 : (1 < Q.length) = True := eq_true (by omega)
 have qq1 : (1 < (Q.length : Int)) = True := eq_true (by omega)
 have qq2 : (0 < Q.length) = True := eq_true (by omega)
 have qq3 : (0 < (Q.length : Int)) = True := eq_true (by omega)
 generalize rd t 0 = lo at *
 generalize rd t 1 = hi' at *
 have n3 : ¬ b < a := by omega
 have n4 : ¬ a < lo := by omega
 have n5 : ¬ hi' < b := by omega
 have n6 : ¬ b < lo := by omega
 have n7 : ¬ hi' < a := by omega
 have hv : val < a := by omega
 clear hv0
 go_enter Tryz.func135, Tryz.ntmps135
 go_wp2_with (first | (go_at_call 62; refine (gronx_zzSplit.calls k _ _ _ _ hs2.out).mono ?_; rintro e w3 ⟨v2, rfl, hR2, hb3⟩; obtain ⟨A2, c2, rfl⟩ := Kd.R_slice hR2; obtain ⟨ae, rfl, z0, z1⟩ := two_at (Kd.R_reads' hR2).2.2 rfl (by omega); have u6 := cell_after hb3 u0; have u7 := cell_after hb3 u1; clear hs2) | (go_at_call 136; refine (strconv_Atoi.calls _ _ _ _ ha0.out).mono ?_; rintro e w4 ⟨rfl, hb4⟩; have u8 := cell_after hb4 u6; have u9 := cell_after hb4 u7; have z2 := cell_after hb4 z1; rw [errW_none]; clear ha0) | (go_at_call 136; refine (strconv_Atoi.calls _ _ _ _ ha1.out).mono ?_; rintro e w5 ⟨rfl, hb5⟩; have v8 := cell_after hb5 u8; have v9 := cell_after hb5 u9; rw [errW_none]; clear ha1))
 go_ret2
 exact ⟨by first | rfl | simp [*], by repeat (first | exact below_step (below_step hb3 hb4) hb5 | apply pw_below_drewN)⟩
set_option maxRecDepth 100000 in
set_option maxHeartbeats 800000 in
theorem range_in_wd (val a b : Int) (s : ByteArray) (t : List Int) (k : Nat) (Q : List ByteArray) (hs2 : gronx_zzSplit.f k s ⟨#[45]⟩ = some Q) (hQ : Q.length = 2) (ha0 : strconv_Atoi.f (rdOf ByteArray.empty Q 0) = some (a, none)) (ha1 : strconv_Atoi.f (rdOf ByteArray.empty Q 1) = some (b, none)) (ht : t.length = 2) (hab : a ≤ b) (hlo : rd t 0 ≤ a) (hhi : b ≤ rd t 1) (b6 : b ≤ 6) (hv : a ≤ val)  : InC 135 val s t true (decide (val ≤ b)) := by
 intro A cc w hC hcc
 have hs2 := Aside0.mk hs2
 have ha0 := Aside0.mk ha0
 have ha1 := Aside0.mk ha1
 obtain ⟨ab, rfl, u0, u1⟩ := two_int hC rfl (by omega)
 have qi0 : (0 < t.length) = True := eq_true (by omega)
 have qi1 : (0 < (t.length : Int)) = True := eq_true (by omega)
 have qi2 : (1 < t.length) = True := eq_true (by omega)
 have qi3 : (1 < (t.length : Int)) = True := eq_true (by omega)
 have qq0 : (1 < Q.length) = True := eq_true (by omega)
 have qq1 : (1 < (Q.length : Int)) = True := eq_true (by omega)
 have qq2 : (0 < Q.length) = True := eq_true (by omega)
 have qq3 : (0 < (Q.length : Int)) = True := eq_true (by omega)
 generalize rd t 0 = lo at *
 generalize rd t 1 = hi' at *
 have n3 : ¬ b < a := by omega
 have n4 : ¬ a < lo := by omega
 have n5 : ¬ hi' < b := by omega
 have n6 : ¬ b < lo := by omega
 have n7 : ¬ hi' < a := by omega
 have m6 : (a == 7) = false := beq_eq_false_iff_ne.mpr (by omega)
 have m7 : (b == 7) = false := beq_eq_false_iff_ne.mpr (by omega)
 have m8 : a ≠ 7 := by omega
 have m9 : b ≠ 7 := by omega
 go_enter Tryz.func135, Tryz.ntmps135
 go_wp2_with (first | (go_at_call 62; refine (gronx_zzSplit.calls k _ _ _ _ hs2.out).mono ?_; rintro e w3 ⟨v2, rfl, hR2, hb3⟩; obtain ⟨A2, c2, rfl⟩ := Kd.R_slice hR2; obtain ⟨ae, rfl, z0, z1⟩ := two_at (Kd.R_reads' hR2).2.2 rfl (by omega); have u6 := cell_after hb3 u0; have u7 := cell_after hb3 u1; clear hs2) | (go_at_call 136; refine (strconv_Atoi.calls _ _ _ _ ha0.out).mono ?_; rintro e w4 ⟨rfl, hb4⟩; have u8 := cell_after hb4 u6; have u9 := cell_after hb4 u7; have z2 := cell_after hb4 z1; rw [errW_none]; clear ha0) | (go_at_call 136; refine (strconv_Atoi.calls _ _ _ _ ha1.out).mono ?_; rintro e w5 ⟨rfl, hb5⟩; have v8 := cell_after hb5 u8; have v9 := cell_after hb5 u9; rw [errW_none]; clear ha1))
 go_ret2
 exact ⟨by first | rfl | simp [*], by repeat (first | exact below_step (below_step hb3 hb4) hb5 | apply pw_below_drewN)⟩
set_option maxRecDepth 100000 in
set_option maxHeartbeats 800000 in
theorem range_out_wd (val a b : Int) (s : ByteArray) (t : List Int) (k : Nat) (Q : List ByteArray) (hs2 : gronx_zzSplit.f k s ⟨#[45]⟩ = some Q) (hQ : Q.length = 2) (ha0 : strconv_Atoi.f (rdOf ByteArray.empty Q 0) = some (a, none)) (ha1 : strconv_Atoi.f (rdOf ByteArray.empty Q 1) = some (b, none)) (ht : t.length = 2) (hab : a ≤ b) (hlo : rd t 0 ≤ a) (hhi : b ≤ rd t 1) (b6 : b ≤ 6) (hv0 : ¬ a ≤ val)  : InC 135 val s t true false := by
 intro A cc w hC hcc
 have hs2 := Aside0.mk hs2
 have ha0 := Aside0.mk ha0
 have ha1 := Aside0.mk ha1
 obtain ⟨ab, rfl, u0, u1⟩ := two_int hC rfl (by omega)
 have qi0 : (0 < t.length) = True := eq_true (by omega)
 have qi1 : (0 < (t.length : Int)) = True := eq_true (by omega)
 have qi2 : (1 < t.length) = True := eq_true (by omega)
 have qi3 : (1 < (t.length : Int)) = True := eq_true (by omega)
 have qq0 : (1 < Q.length) = True := eq_true (by omega)
 have qq1 : (1 < (Q.length : Int)) = True := eq_true (by omega)
 have qq2 : (0 < Q.length) = True := eq_true (by omega)
 have qq3 : (0 < (Q.length : Int)) = True := eq_true (by omega)
 generalize rd t 0 = lo at *
 generalize rd t 1 = hi' at *
 have n3 : ¬ b < a := by omega
 have n4 : ¬ a < lo := by omega
 have n5 : ¬ hi' < b := by omega
 have n6 : ¬ b < lo := by omega
 have n7 : ¬ hi' < a := by omega
 have m6 : (a == 7) = false := beq_eq_false_iff_ne.mpr (by omega)
 have m7 : (b == 7) = false := beq_eq_false_iff_ne.mpr (by omega)
 have m8 : a ≠ 7 := by omega
 have m9 : b ≠ 7 := by omega
 have hv : val < a := by omega
 clear hv0
 go_enter Tryz.func135, Tryz.ntmps135
 go_wp2_with (first | (go_at_call 62; refine (gronx_zzSplit.calls k _ _ _ _ hs2.out).mono ?_; rintro e w3 ⟨v2, rfl, hR2, hb3⟩; obtain ⟨A2, c2, rfl⟩ := Kd.R_slice hR2; obtain ⟨ae, rfl, z0, z1⟩ := two_at (Kd.R_reads' hR2).2.2 rfl (by omega); have u6 := cell_after hb3 u0; have u7 := cell_after hb3 u1; clear hs2) | (go_at_call 136; refine (strconv_Atoi.calls _ _ _ _ ha0.out).mono ?_; rintro e w4 ⟨rfl, hb4⟩; have u8 := cell_after hb4 u6; have u9 := cell_after hb4 u7; have z2 := cell_after hb4 z1; rw [errW_none]; clear ha0) | (go_at_call 136; refine (strconv_Atoi.calls _ _ _ _ ha1.out).mono ?_; rintro e w5 ⟨rfl, hb5⟩; have v8 := cell_after hb5 u8; have v9 := cell_after hb5 u9; rw [errW_none]; clear ha1))
 go_ret2
 exact ⟨by first | rfl | simp [*], by repeat (first | exact below_step (below_step hb3 hb4) hb5 | apply pw_below_drewN)⟩
set_option maxRecDepth 100000 in
set_option maxHeartbeats 800000 in
theorem offStar_w (c : Nat) (val : Int) (pos : Nat) : OffC c val pos ⟨#[42]⟩ true false := by
 intro w
 go_enter Tryz.func117, Tryz.ntmps117
 go_wp2
 go_ret2
 exact ⟨_, rfl, .inl ⟨rfl, rfl⟩, by repeat (first | exact Below.refl _ _ | apply pw_below_drewN)⟩
set_option maxRecDepth 100000 in
set_option maxHeartbeats 800000 in
theorem offStep_w (c : Nat) (o : ByteArray) (k : Nat) (val : Int) (t : List Int) (pos : Nat) (s1 : o.toList ≠ ([42] : List UInt8)) (s2 : o.toList ≠ ([63] : List UInt8)) (hb : gronx_boundsByPos.f k (pos : Int) = some t) (h1 : gronx_zzContains.f k o ⟨#[47]⟩ = some true) (r : Bool) (hin : InC 134 val o t ((pos : Int) == 5) r) : OffC c val pos o r false := by
 intro w
 have hb := Aside0.mk hb
 have q1 : (o.toList == ([42] : List UInt8)) = false := beq_eq_false_iff_ne.mpr s1
 have q2 : (o.toList == ([63] : List UInt8)) = false := beq_eq_false_iff_ne.mpr s2
 have h1 := Aside0.mk h1
 have hin := Aside0.mk hin
 go_enter Tryz.func117, Tryz.ntmps117
 go_wp2_with (first | (go_at_call 132; refine (gronx_boundsByPos.calls k _ _ _ hb.out).mono ?_; rintro e w1 ⟨v0, rfl, hR, hb1⟩; obtain ⟨A, cc, rfl⟩ := Kd.R_slice hR) | (go_at_call 133; refine (gronx_zzContains.calls k _ _ _ _ h1.out).mono ?_; rintro e wz ⟨rfl, ⟨nd, rfl⟩⟩; clear h1) | (go_at_call 134; refine (hin.out _ _ _ (Kd.C_below (Kd.R_reads' hR).2.2 (by repeat (first | exact Below.refl _ _ | apply pw_below_drewN))) (Kd.R_reads' hR).2.1).mono ?_; rintro e w2 ⟨rfl, hb2⟩))
 go_ret2
 exact ⟨_, rfl, .inl ⟨rfl, rfl⟩, below_step (by repeat (first | exact hb1 | apply pw_below_drewN)) hb2⟩
set_option maxRecDepth 100000 in
set_option maxHeartbeats 800000 in
theorem offRange_w (c : Nat) (o : ByteArray) (k : Nat) (val : Int) (t : List Int) (pos : Nat) (s1 : o.toList ≠ ([42] : List UInt8)) (s2 : o.toList ≠ ([63] : List UInt8)) (hb : gronx_boundsByPos.f k (pos : Int) = some t) (h1 : gronx_zzContains.f k o ⟨#[47]⟩ = some false) (h2 : gronx_zzContains.f k o ⟨#[45]⟩ = some true) (r : Bool) (hin : InC 135 val o t ((pos : Int) == 5) r) : OffC c val pos o r false := by
 intro w
 have hb := Aside0.mk hb
 have q1 : (o.toList == ([42] : List UInt8)) = false := beq_eq_false_iff_ne.mpr s1
 have q2 : (o.toList == ([63] : List UInt8)) = false := beq_eq_false_iff_ne.mpr s2
 have h1 := Aside0.mk h1
 have h2 := Aside0.mk h2
 have hin := Aside0.mk hin
 go_enter Tryz.func117, Tryz.ntmps117
 go_wp2_with (first | (go_at_call 132; refine (gronx_boundsByPos.calls k _ _ _ hb.out).mono ?_; rintro e w1 ⟨v0, rfl, hR, hb1⟩; obtain ⟨A, cc, rfl⟩ := Kd.R_slice hR) | (go_at_call 133; refine (gronx_zzContains.calls k _ _ _ _ h1.out).mono ?_; rintro e wz ⟨rfl, ⟨nd, rfl⟩⟩; clear h1) | (go_at_call 133; refine (gronx_zzContains.calls k _ _ _ _ h2.out).mono ?_; rintro e wz ⟨rfl, ⟨nd2, rfl⟩⟩; clear h2) | (go_at_call 135; refine (hin.out _ _ _ (Kd.C_below (Kd.R_reads' hR).2.2 (by repeat (first | exact Below.refl _ _ | apply pw_below_drewN))) (Kd.R_reads' hR).2.1).mono ?_; rintro e w2 ⟨rfl, hb2⟩))
 go_ret2
 exact ⟨_, rfl, .inl ⟨rfl, rfl⟩, below_step (by repeat (first | exact hb1 | apply pw_below_drewN)) hb2⟩
set_option maxRecDepth 100000 in
set_option maxHeartbeats 800000 in
theorem offNum_wd_eq (c : Nat) (o : ByteArray) (k : Nat) (val : Int) (t : List Int) (pos : Nat) (s1 : o.toList ≠ ([42] : List UInt8)) (s2 : o.toList ≠ ([63] : List UInt8)) (hb : gronx_boundsByPos.f k (pos : Int) = some t) (ht : t.length = 2) (n : Int) (h1 : gronx_zzContains.f k o ⟨#[47]⟩ = some false) (h2 : gronx_zzContains.f k o ⟨#[45]⟩ = some false) (ha : strconv_Atoi.f o = some (n, none)) (hlo : rd t 0 ≤ n) (hhi : n ≤ rd t 1) (hp : pos = 5) (hn : n = val)  : OffC c val pos o true false := by
 intro w
 have hb := Aside0.mk hb
 have q1 : (o.toList == ([42] : List UInt8)) = false := beq_eq_false_iff_ne.mpr s1
 have q2 : (o.toList == ([63] : List UInt8)) = false := beq_eq_false_iff_ne.mpr s2
 have h1 := Aside0.mk h1
 have h2 := Aside0.mk h2
 have ha := Aside0.mk ha
 have qi0 : (0 < t.length) = True := eq_true (by omega)
 have qi1 : (0 < (t.length : Int)) = True := eq_true (by omega)
 have qi2 : (1 < t.length) = True := eq_true (by omega)
 have qi3 : (1 < (t.length : Int)) = True := eq_true (by omega)
 have g0 : ∃ lo, rd t 0 = lo := ⟨_, rfl⟩
 have g1 : ∃ hi, rd t 1 = hi := ⟨_, rfl⟩
 obtain ⟨lo, g0⟩ := g0
 obtain ⟨hi, g1⟩ := g1
 rw [g0] at hlo
 rw [g1] at hhi
 have n4 : ¬ n < lo := by omega
 have n5 : ¬ hi < n := by omega
 have e5 : ((pos : Int) == 5) = true := by simp; omega
 clear hp
 have f1 : (n == val) = true := by simp [hn]
 clear hn
 go_enter Tryz.func117, Tryz.ntmps117
 go_wp2_with (first | (go_at_call 132; refine (gronx_boundsByPos.calls k _ _ _ hb.out).mono ?_; rintro e w1 ⟨v0, rfl, hR, hb1⟩; obtain ⟨A, cc, rfl⟩ := Kd.R_slice hR) | (go_at_call 133; refine (gronx_zzContains.calls k _ _ _ _ h1.out).mono ?_; rintro e wz ⟨rfl, ⟨nd, rfl⟩⟩; clear h1) | (go_at_call 133; refine (gronx_zzContains.calls k _ _ _ _ h2.out).mono ?_; rintro e wz ⟨rfl, ⟨nd2, rfl⟩⟩; clear h2) | (go_at_call 136; refine (strconv_Atoi.calls _ _ _ _ ha.out).mono ?_; rintro e w2 ⟨rfl, hb2⟩; rw [errW_none]; obtain ⟨ad, rfl, y0, y1⟩ := two_int (Kd.R_reads' hR).2.2 rfl (by omega); have x0 := cell_after (by repeat (first | exact hb2 | exact below_step (by repeat (first | exact Below.refl _ _ | apply pw_below_drewN)) hb2)) y0; rw [g0] at x0; have x1 := cell_after (by repeat (first | exact hb2 | exact below_step (by repeat (first | exact Below.refl _ _ | apply pw_below_drewN)) hb2)) y1; rw [g1] at x1))
 go_ret2
 exact ⟨_, rfl, .inl ⟨rfl, rfl⟩, below_step (by repeat (first | exact hb1 | apply pw_below_drewN)) hb2⟩
set_option maxRecDepth 100000 in
set_option maxHeartbeats 800000 in
theorem offNum_wd_ne (c : Nat) (o : ByteArray) (k : Nat) (val : Int) (t : List Int) (pos : Nat) (s1 : o.toList ≠ ([42] : List UInt8)) (s2 : o.toList ≠ ([63] : List UInt8)) (hb : gronx_boundsByPos.f k (pos : Int) = some t) (ht : t.length = 2) (n : Int) (h1 : gronx_zzContains.f k o ⟨#[47]⟩ = some false) (h2 : gronx_zzContains.f k o ⟨#[45]⟩ = some false) (ha : strconv_Atoi.f o = some (n, none)) (hlo : rd t 0 ≤ n) (hhi : n ≤ rd t 1) (hp : pos = 5) (n6 : n ≤ 6) (hn : n ≠ val)  : OffC c val pos o false false := by
 intro w
 have hb := Aside0.mk hb
 have q1 : (o.toList == ([42] : List UInt8)) = false := beq_eq_false_iff_ne.mpr s1
 have q2 : (o.toList == ([63] : List UInt8)) = false := beq_eq_false_iff_ne.mpr s2
 have h1 := Aside0.mk h1
 have h2 := Aside0.mk h2
 have ha := Aside0.mk ha
 have qi0 : (0 < t.length) = True := eq_true (by omega)
 have qi1 : (0 < (t.length : Int)) = True := eq_true (by omega)
 have qi2 : (1 < t.length) = True := eq_true (by omega)
 have qi3 : (1 < (t.length : Int)) = True := eq_true (by omega)
 have g0 : ∃ lo, rd t 0 = lo := ⟨_, rfl⟩
 have g1 : ∃ hi, rd t 1 = hi := ⟨_, rfl⟩
 obtain ⟨lo, g0⟩ := g0
 obtain ⟨hi, g1⟩ := g1
 rw [g0] at hlo
 rw [g1] at hhi
 have n4 : ¬ n < lo := by omega
 have n5 : ¬ hi < n := by omega
 have e5 : ((pos : Int) == 5) = true := by simp; omega
 clear hp
 have f1 : (n == val) = false := by simp [hn]
 have f2 : (n == 7) = false := by simp; omega
 have f3 : n ≠ 7 := by omega
 go_enter Tryz.func117, Tryz.ntmps117
 go_wp2_with (first | (go_at_call 132; refine (gronx_boundsByPos.calls k _ _ _ hb.out).mono ?_; rintro e w1 ⟨v0, rfl, hR, hb1⟩; obtain ⟨A, cc, rfl⟩ := Kd.R_slice hR) | (go_at_call 133; refine (gronx_zzContains.calls k _ _ _ _ h1.out).mono ?_; rintro e wz ⟨rfl, ⟨nd, rfl⟩⟩; clear h1) | (go_at_call 133; refine (gronx_zzContains.calls k _ _ _ _ h2.out).mono ?_; rintro e wz ⟨rfl, ⟨nd2, rfl⟩⟩; clear h2) | (go_at_call 136; refine (strconv_Atoi.calls _ _ _ _ ha.out).mono ?_; rintro e w2 ⟨rfl, hb2⟩; rw [errW_none]; obtain ⟨ad, rfl, y0, y1⟩ := two_int (Kd.R_reads' hR).2.2 rfl (by omega); have x0 := cell_after (by repeat (first | exact hb2 | exact below_step (by repeat (first | exact Below.refl _ _ | apply pw_below_drewN)) hb2)) y0; rw [g0] at x0; have x1 := cell_after (by repeat (first | exact hb2 | exact below_step (by repeat (first | exact Below.refl _ _ | apply pw_below_drewN)) hb2)) y1; rw [g1] at x1))
 go_ret2
 exact ⟨_, rfl, .inl ⟨rfl, rfl⟩, below_step (by repeat (first | exact hb1 | apply pw_below_drewN)) hb2⟩
set_option maxRecDepth 100000 in
set_option maxHeartbeats 800000 in
theorem offNum_zz (c : Nat) (o : ByteArray) (k : Nat) (val : Int) (t : List Int) (pos : Nat) (s1 : o.toList ≠ ([42] : List UInt8)) (s2 : o.toList ≠ ([63] : List UInt8)) (hb : gronx_boundsByPos.f k (pos : Int) = some t) (ht : t.length = 2) (n : Int) (h1 : gronx_zzContains.f k o ⟨#[47]⟩ = some false) (h2 : gronx_zzContains.f k o ⟨#[45]⟩ = some false) (ha : strconv_Atoi.f o = some (n, none)) (hlo : rd t 0 ≤ n) (hhi : n ≤ rd t 1) (hp : pos ≠ 5) (hv : val = 0) (hn : n = 0)  : OffC c val pos o true false := by
 intro w
 have hb := Aside0.mk hb
 have q1 : (o.toList == ([42] : List UInt8)) = false := beq_eq_false_iff_ne.mpr s1
 have q2 : (o.toList == ([63] : List UInt8)) = false := beq_eq_false_iff_ne.mpr s2
 have h1 := Aside0.mk h1
 have h2 := Aside0.mk h2
 have ha := Aside0.mk ha
 have qi0 : (0 < t.length) = True := eq_true (by omega)
 have qi1 : (0 < (t.length : Int)) = True := eq_true (by omega)
 have qi2 : (1 < t.length) = True := eq_true (by omega)
 have qi3 : (1 < (t.length : Int)) = True := eq_true (by omega)
 have g0 : ∃ lo, rd t 0 = lo := ⟨_, rfl⟩
 have g1 : ∃ hi, rd t 1 = hi := ⟨_, rfl⟩
 obtain ⟨lo, g0⟩ := g0
 obtain ⟨hi, g1⟩ := g1
 rw [g0] at hlo
 rw [g1] at hhi
 have n4 : ¬ n < lo := by omega
 have n5 : ¬ hi < n := by omega
 have e5 : ((pos : Int) == 5) = false := by simp; omega
 clear hp
 have f1 : (val == 0) = true := by simp [hv]
 have f2 : (n == 0) = true := by simp [hn]
 clear hv hn
 go_enter Tryz.func117, Tryz.ntmps117
 go_wp2_with (first | (go_at_call 132; refine (gronx_boundsByPos.calls k _ _ _ hb.out).mono ?_; rintro e w1 ⟨v0, rfl, hR, hb1⟩; obtain ⟨A, cc, rfl⟩ := Kd.R_slice hR) | (go_at_call 133; refine (gronx_zzContains.calls k _ _ _ _ h1.out).mono ?_; rintro e wz ⟨rfl, ⟨nd, rfl⟩⟩; clear h1) | (go_at_call 133; refine (gronx_zzContains.calls k _ _ _ _ h2.out).mono ?_; rintro e wz ⟨rfl, ⟨nd2, rfl⟩⟩; clear h2) | (go_at_call 136; refine (strconv_Atoi.calls _ _ _ _ ha.out).mono ?_; rintro e w2 ⟨rfl, hb2⟩; rw [errW_none]; obtain ⟨ad, rfl, y0, y1⟩ := two_int (Kd.R_reads' hR).2.2 rfl (by omega); have x0 := cell_after (by repeat (first | exact hb2 | exact below_step (by repeat (first | exact Below.refl _ _ | apply pw_below_drewN)) hb2)) y0; rw [g0] at x0; have x1 := cell_after (by repeat (first | exact hb2 | exact below_step (by repeat (first | exact Below.refl _ _ | apply pw_below_drewN)) hb2)) y1; rw [g1] at x1))
 go_ret2
 exact ⟨_, rfl, .inl ⟨rfl, rfl⟩, below_step (by repeat (first | exact hb1 | apply pw_below_drewN)) hb2⟩
set_option maxRecDepth 100000 in
set_option maxHeartbeats 800000 in
theorem offNum_zn (c : Nat) (o : ByteArray) (k : Nat) (val : Int) (t : List Int) (pos : Nat) (s1 : o.toList ≠ ([42] : List UInt8)) (s2 : o.toList ≠ ([63] : List UInt8)) (hb : gronx_boundsByPos.f k (pos : Int) = some t) (ht : t.length = 2) (n : Int) (h1 : gronx_zzContains.f k o ⟨#[47]⟩ = some false) (h2 : gronx_zzContains.f k o ⟨#[45]⟩ = some false) (ha : strconv_Atoi.f o = some (n, none)) (hlo : rd t 0 ≤ n) (hhi : n ≤ rd t 1) (hp : pos ≠ 5) (hv : val = 0) (hn : n ≠ 0)  : OffC c val pos o false false := by
 intro w
 have hb := Aside0.mk hb
 have q1 : (o.toList == ([42] : List UInt8)) = false := beq_eq_false_iff_ne.mpr s1
 have q2 : (o.toList == ([63] : List UInt8)) = false := beq_eq_false_iff_ne.mpr s2
 have h1 := Aside0.mk h1
 have h2 := Aside0.mk h2
 have ha := Aside0.mk ha
 have qi0 : (0 < t.length) = True := eq_true (by omega)
 have qi1 : (0 < (t.length : Int)) = True := eq_true (by omega)
 have qi2 : (1 < t.length) = True := eq_true (by omega)
 have qi3 : (1 < (t.length : Int)) = True := eq_true (by omega)
 have g0 : ∃ lo, rd t 0 = lo := ⟨_, rfl⟩
 have g1 : ∃ hi, rd t 1 = hi := ⟨_, rfl⟩
 obtain ⟨lo, g0⟩ := g0
 obtain ⟨hi, g1⟩ := g1
 rw [g0] at hlo
 rw [g1] at hhi
 have n4 : ¬ n < lo := by omega
 have n5 : ¬ hi < n := by omega
 have e5 : ((pos : Int) == 5) = false := by simp; omega
 clear hp
 have f1 : (val == 0) = true := by simp [hv]
 have f2 : (n == 0) = false := by simp [hn]
 clear hv
 go_enter Tryz.func117, Tryz.ntmps117
 go_wp2_with (first | (go_at_call 132; refine (gronx_boundsByPos.calls k _ _ _ hb.out).mono ?_; rintro e w1 ⟨v0, rfl, hR, hb1⟩; obtain ⟨A, cc, rfl⟩ := Kd.R_slice hR) | (go_at_call 133; refine (gronx_zzContains.calls k _ _ _ _ h1.out).mono ?_; rintro e wz ⟨rfl, ⟨nd, rfl⟩⟩; clear h1) | (go_at_call 133; refine (gronx_zzContains.calls k _ _ _ _ h2.out).mono ?_; rintro e wz ⟨rfl, ⟨nd2, rfl⟩⟩; clear h2) | (go_at_call 136; refine (strconv_Atoi.calls _ _ _ _ ha.out).mono ?_; rintro e w2 ⟨rfl, hb2⟩; rw [errW_none]; obtain ⟨ad, rfl, y0, y1⟩ := two_int (Kd.R_reads' hR).2.2 rfl (by omega); have x0 := cell_after (by repeat (first | exact hb2 | exact below_step (by repeat (first | exact Below.refl _ _ | apply pw_below_drewN)) hb2)) y0; rw [g0] at x0; have x1 := cell_after (by repeat (first | exact hb2 | exact below_step (by repeat (first | exact Below.refl _ _ | apply pw_below_drewN)) hb2)) y1; rw [g1] at x1))
 go_ret2
 exact ⟨_, rfl, .inl ⟨rfl, rfl⟩, below_step (by repeat (first | exact hb1 | apply pw_below_drewN)) hb2⟩
set_option maxRecDepth 100000 in
set_option maxHeartbeats 800000 in
theorem offNum_nz (c : Nat) (o : ByteArray) (k : Nat) (val : Int) (t : List Int) (pos : Nat) (s1 : o.toList ≠ ([42] : List UInt8)) (s2 : o.toList ≠ ([63] : List UInt8)) (hb : gronx_boundsByPos.f k (pos : Int) = some t) (ht : t.length = 2) (n : Int) (h1 : gronx_zzContains.f k o ⟨#[47]⟩ = some false) (h2 : gronx_zzContains.f k o ⟨#[45]⟩ = some false) (ha : strconv_Atoi.f o = some (n, none)) (hlo : rd t 0 ≤ n) (hhi : n ≤ rd t 1) (hp : pos ≠ 5) (hv : val ≠ 0) (hn : n = 0)  : OffC c val pos o false false := by
 intro w
 have hb := Aside0.mk hb
 have q1 : (o.toList == ([42] : List UInt8)) = false := beq_eq_false_iff_ne.mpr s1
 have q2 : (o.toList == ([63] : List UInt8)) = false := beq_eq_false_iff_ne.mpr s2
 have h1 := Aside0.mk h1
 have h2 := Aside0.mk h2
 have ha := Aside0.mk ha
 have qi0 : (0 < t.length) = True := eq_true (by omega)
 have qi1 : (0 < (t.length : Int)) = True := eq_true (by omega)
 have qi2 : (1 < t.length) = True := eq_true (by omega)
 have qi3 : (1 < (t.length : Int)) = True := eq_true (by omega)
 have g0 : ∃ lo, rd t 0 = lo := ⟨_, rfl⟩
 have g1 : ∃ hi, rd t 1 = hi := ⟨_, rfl⟩
 obtain ⟨lo, g0⟩ := g0
 obtain ⟨hi, g1⟩ := g1
 rw [g0] at hlo
 rw [g1] at hhi
 have n4 : ¬ n < lo := by omega
 have n5 : ¬ hi < n := by omega
 have e5 : ((pos : Int) == 5) = false := by simp; omega
 clear hp
 have f1 : (val == 0) = false := by simp [hv]
 have f2 : (n == 0) = true := by simp [hn]
 clear hn
 go_enter Tryz.func117, Tryz.ntmps117
 go_wp2_with (first | (go_at_call 132; refine (gronx_boundsByPos.calls k _ _ _ hb.out).mono ?_; rintro e w1 ⟨v0, rfl, hR, hb1⟩; obtain ⟨A, cc, rfl⟩ := Kd.R_slice hR) | (go_at_call 133; refine (gronx_zzContains.calls k _ _ _ _ h1.out).mono ?_; rintro e wz ⟨rfl, ⟨nd, rfl⟩⟩; clear h1) | (go_at_call 133; refine (gronx_zzContains.calls k _ _ _ _ h2.out).mono ?_; rintro e wz ⟨rfl, ⟨nd2, rfl⟩⟩; clear h2) | (go_at_call 136; refine (strconv_Atoi.calls _ _ _ _ ha.out).mono ?_; rintro e w2 ⟨rfl, hb2⟩; rw [errW_none]; obtain ⟨ad, rfl, y0, y1⟩ := two_int (Kd.R_reads' hR).2.2 rfl (by omega); have x0 := cell_after (by repeat (first | exact hb2 | exact below_step (by repeat (first | exact Below.refl _ _ | apply pw_below_drewN)) hb2)) y0; rw [g0] at x0; have x1 := cell_after (by repeat (first | exact hb2 | exact below_step (by repeat (first | exact Below.refl _ _ | apply pw_below_drewN)) hb2)) y1; rw [g1] at x1))
 go_ret2
 exact ⟨_, rfl, .inl ⟨rfl, rfl⟩, below_step (by repeat (first | exact hb1 | apply pw_below_drewN)) hb2⟩
set_option maxRecDepth 100000 in
set_option maxHeartbeats 800000 in
theorem offNum_eq (c : Nat) (o : ByteArray) (k : Nat) (val : Int) (t : List Int) (pos : Nat) (s1 : o.toList ≠ ([42] : List UInt8)) (s2 : o.toList ≠ ([63] : List UInt8)) (hb : gronx_boundsByPos.f k (pos : Int) = some t) (ht : t.length = 2) (n : Int) (h1 : gronx_zzContains.f k o ⟨#[47]⟩ = some false) (h2 : gronx_zzContains.f k o ⟨#[45]⟩ = some false) (ha : strconv_Atoi.f o = some (n, none)) (hlo : rd t 0 ≤ n) (hhi : n ≤ rd t 1) (hp : pos ≠ 5) (hv : val ≠ 0) (hn0 : n ≠ 0) (hn : n = val)  : OffC c val pos o true false := by
 intro w
 have hb := Aside0.mk hb
 have q1 : (o.toList == ([42] : List UInt8)) = false := beq_eq_false_iff_ne.mpr s1
 have q2 : (o.toList == ([63] : List UInt8)) = false := beq_eq_false_iff_ne.mpr s2
 have h1 := Aside0.mk h1
 have h2 := Aside0.mk h2
 have ha := Aside0.mk ha
 have qi0 : (0 < t.length) = True := eq_true (by omega)
 have qi1 : (0 < (t.length : Int)) = True := eq_true (by omega)
 have qi2 : (1 < t.length) = True := eq_true (by omega)
 have qi3 : (1 < (t.length : Int)) = True := eq_true (by omega)
 have g0 : ∃ lo, rd t 0 = lo := ⟨_, rfl⟩
 have g1 : ∃ hi, rd t 1 = hi := ⟨_, rfl⟩
 obtain ⟨lo, g0⟩ := g0
 obtain ⟨hi, g1⟩ := g1
 rw [g0] at hlo
 rw [g1] at hhi
 have n4 : ¬ n < lo := by omega
 have n5 : ¬ hi < n := by omega
 have e5 : ((pos : Int) == 5) = false := by simp; omega
 clear hp
 have f1 : (val == 0) = false := by simp [hv]
 have f2 : (n == 0) = false := by simp [hn0]
 have f3 : (n == val) = true := by simp [hn]
 clear hn
 go_enter Tryz.func117, Tryz.ntmps117
 go_wp2_with (first | (go_at_call 132; refine (gronx_boundsByPos.calls k _ _ _ hb.out).mono ?_; rintro e w1 ⟨v0, rfl, hR, hb1⟩; obtain ⟨A, cc, rfl⟩ := Kd.R_slice hR) | (go_at_call 133; refine (gronx_zzContains.calls k _ _ _ _ h1.out).mono ?_; rintro e wz ⟨rfl, ⟨nd, rfl⟩⟩; clear h1) | (go_at_call 133; refine (gronx_zzContains.calls k _ _ _ _ h2.out).mono ?_; rintro e wz ⟨rfl, ⟨nd2, rfl⟩⟩; clear h2) | (go_at_call 136; refine (strconv_Atoi.calls _ _ _ _ ha.out).mono ?_; rintro e w2 ⟨rfl, hb2⟩; rw [errW_none]; obtain ⟨ad, rfl, y0, y1⟩ := two_int (Kd.R_reads' hR).2.2 rfl (by omega); have x0 := cell_after (by repeat (first | exact hb2 | exact below_step (by repeat (first | exact Below.refl _ _ | apply pw_below_drewN)) hb2)) y0; rw [g0] at x0; have x1 := cell_after (by repeat (first | exact hb2 | exact below_step (by repeat (first | exact Below.refl _ _ | apply pw_below_drewN)) hb2)) y1; rw [g1] at x1))
 go_ret2
 exact ⟨_, rfl, .inl ⟨rfl, rfl⟩, below_step (by repeat (first | exact hb1 | apply pw_below_drewN)) hb2⟩
set_option maxRecDepth 100000 in
set_option maxHeartbeats 800000 in
theorem offNum_ne (c : Nat) (o : ByteArray) (k : Nat) (val : Int) (t : List Int) (pos : Nat) (s1 : o.toList ≠ ([42] : List UInt8)) (s2 : o.toList ≠ ([63] : List UInt8)) (hb : gronx_boundsByPos.f k (pos : Int) = some t) (ht : t.length = 2) (n : Int) (h1 : gronx_zzContains.f k o ⟨#[47]⟩ = some false) (h2 : gronx_zzContains.f k o ⟨#[45]⟩ = some false) (ha : strconv_Atoi.f o = some (n, none)) (hlo : rd t 0 ≤ n) (hhi : n ≤ rd t 1) (hp : pos ≠ 5) (hv : val ≠ 0) (hn0 : n ≠ 0) (hn : n ≠ val)  : OffC c val pos o false false := by
 intro w
 have hb := Aside0.mk hb
 have q1 : (o.toList == ([42] : List UInt8)) = false := beq_eq_false_iff_ne.mpr s1
 have q2 : (o.toList == ([63] : List UInt8)) = false := beq_eq_false_iff_ne.mpr s2
 have h1 := Aside0.mk h1
 have h2 := Aside0.mk h2
 have ha := Aside0.mk ha
 have qi0 : (0 < t.length) = True := eq_true (by omega)
 have qi1 : (0 < (t.length : Int)) = True := eq_true (by omega)
 have qi2 : (1 < t.length) = True := eq_true (by omega)
 have qi3 : (1 < (t.length : Int)) = True := eq_true (by omega)
 have g0 : ∃ lo, rd t 0 = lo := ⟨_, rfl⟩
 have g1 : ∃ hi, rd t 1 = hi := ⟨_, rfl⟩
 obtain ⟨lo, g0⟩ := g0
 obtain ⟨hi, g1⟩ := g1
 rw [g0] at hlo
 rw [g1] at hhi
 have n4 : ¬ n < lo := by omega
 have n5 : ¬ hi < n := by omega
 have e5 : ((pos : Int) == 5) = false := by simp; omega
 clear hp
 have f1 : (val == 0) = false := by simp [hv]
 have f2 : (n == 0) = false := by simp [hn0]
 have f3 : (n == val) = false := by simp [hn]
 go_enter Tryz.func117, Tryz.ntmps117
 go_wp2_with (first | (go_at_call 132; refine (gronx_boundsByPos.calls k _ _ _ hb.out).mono ?_; rintro e w1 ⟨v0, rfl, hR, hb1⟩; obtain ⟨A, cc, rfl⟩ := Kd.R_slice hR) | (go_at_call 133; refine (gronx_zzContains.calls k _ _ _ _ h1.out).mono ?_; rintro e wz ⟨rfl, ⟨nd, rfl⟩⟩; clear h1) | (go_at_call 133; refine (gronx_zzContains.calls k _ _ _ _ h2.out).mono ?_; rintro e wz ⟨rfl, ⟨nd2, rfl⟩⟩; clear h2) | (go_at_call 136; refine (strconv_Atoi.calls _ _ _ _ ha.out).mono ?_; rintro e w2 ⟨rfl, hb2⟩; rw [errW_none]; obtain ⟨ad, rfl, y0, y1⟩ := two_int (Kd.R_reads' hR).2.2 rfl (by omega); have x0 := cell_after (by repeat (first | exact hb2 | exact below_step (by repeat (first | exact Below.refl _ _ | apply pw_below_drewN)) hb2)) y0; rw [g0] at x0; have x1 := cell_after (by repeat (first | exact hb2 | exact below_step (by repeat (first | exact Below.refl _ _ | apply pw_below_drewN)) hb2)) y1; rw [g1] at x1))
 go_ret2
 exact ⟨_, rfl, .inl ⟨rfl, rfl⟩, below_step (by repeat (first | exact hb1 | apply pw_below_drewN)) hb2⟩
end Go.Proofs.YtemgofomhjabpaaGreatDoor.Core
namespace Go.Proofs.YtemgofomhjabpaaGreatDoor.Core
open Go.RowKit Go.Proofs.YtemgofomhjabpaaGreatDoorW.PrintWords
theorem decN_small (n : Nat) (h : n < 100) : decN n = if n < 10 then [UInt8.ofNat (48 + n)] else [UInt8.ofNat (48 + n / 10), UInt8.ofNat (48 + n % 10)] := by
 split
 ·rename_i h1; exact decN_lt n h1
 ·rename_i h1; rw [decN_ge n h1, decN_lt (n / 10) (by omega)]; rfl
theorem atoi_table : ∀ n : Fin 100, Lib.atoi (if n.val < 10 then [UInt8.ofNat (48 + n.val)] else [UInt8.ofNat (48 + n.val / 10), UInt8.ofNat (48 + n.val % 10)]) = some (n.val : Int) := by decide +kernel
theorem atoi_two (n : Nat) (h : n < 100) : strconv_Atoi.f (B (decN n)) = some ((n : Int), none) := by
 unfold strconv_Atoi.f
 have hl := decN_length n 1 (by simpa using h)
 rw [B_size, if_pos (by omega), B_data, decN_small n h, atoi_table ⟨n, h⟩]
 rfl
theorem dec_no (n : Nat) (c : UInt8) (hc : c.toNat < 48 ∨ 57 < c.toNat) : c ∉ decN n := fun e => by have := decN_digit n c e; omega
def loB (i : Nat) : Int := if i = 3 ∨ i = 4 then 1 else 0
def hiB (i : Nat) : Int := [59, 59, 23, 31, 12, 7, 9999].getD i 0
theorem bounds_ev (i : Nat) (hi : i ≤ 6) : Ev (fun k => gronx_boundsByPos.f k (i : Int)) [loB i, hiB i] := by
 match i, hi with
 | 0, _ => exact Ev.done fun k => rfl
 | 1, _ => exact Ev.done fun k => rfl
 | 2, _ => exact Ev.done fun k => rfl
 | 3, _ => exact Ev.done fun k => rfl
 | 4, _ => exact Ev.done fun k => rfl
 | 5, _ => exact Ev.done fun k => rfl
 | 6, _ => exact Ev.done fun k => rfl
theorem contains_no (c : UInt8) (l : List UInt8) (h : c ∉ l) (hl : l.length < 4611686018427387904) : Ev (fun k => gronx_zzContains.f k (B l) (B [c])) false := by
 unfold gronx_zzContains.f
 have := zzIndex_ev l [c] (by simp) hl (by simp)
 rw [idxL_one_none c l h 0] at this
 exact Ev.bind this (Ev.const rfl)
theorem contains_yes (c : UInt8) (p r : List UInt8) (h : c ∉ p) (hl : (p ++ c :: r).length < 4611686018427387904) : Ev (fun k => gronx_zzContains.f k (B (p ++ c :: r)) (B [c])) true := by
 unfold gronx_zzContains.f
 have := zzIndex_ev (p ++ c :: r) [c] (by simp) hl (by simp)
 rw [idxL_one_at c p r h 0] at this
 exact Ev.bind this (Ev.const (by rw [decide_eq_true (by omega)]))
theorem idxL_ge (m l : List UInt8) (i : Nat) : idxL m l i = -1 ∨ (i : Int) ≤ idxL m l i := by
 induction l generalizing i with
 | nil => exact Or.inl rfl
 | cons b t ih =>
  unfold idxL
  split
  ·split
   ·exact Or.inr (Int.le_refl _)
   ·rcases ih (i + 1) with h | h
    ·exact Or.inl h
    ·exact Or.inr (by omega)
  ·exact Or.inl rfl
theorem idxL_head (m : List UInt8) (b : UInt8) (t : List UInt8) (h : m.head? ≠ some b) (hm : m ≠ []) : idxL m (b :: t) 0 ≠ 0 := by
 unfold idxL
 split
 ·rw [if_neg (fun e => h (by rw [← e]; cases m with | nil => exact absurd rfl hm | cons a s => simp))]
  have := idxL_ge m t 1
  simp only [Nat.zero_add] at *
  omega
 ·decide
theorem idxL_starSlash (r : List UInt8) : idxL [42, 47] (42 :: 47 :: r) 0 = 0 := by
 unfold idxL
 rw [if_pos (by simp), if_pos (by simp)]
 rfl
theorem stepRange_ev (val en step : Int) (s0 : 1 ≤ step) (s1 : step ≤ 1000) (e1 : en ≤ 100000) :
  ∀ (d : Nat) (start : Int), (en - start).toNat ≤ d → 0 ≤ start → start ≤ 200000 → Ev (fun k => gronx_inStepRange.l0 k val en step start) (decide (start ≤ val ∧ val ≤ en ∧ (val - start) % step = 0)) := by
 intro d
 induction d with
 | zero =>
  intro start hd h0 h1
  by_cases hs : start ≤ en
  ·have he : start = en := by omega
   subst he
   by_cases hv : start ≤ val
   ·by_cases hq : start = val
    ·subst hq
     refine Ev.step (f := fun k => gronx_inStepRange.j1 k start start step start true) (fun k => ?_) (Ev.done fun k => ?_)
     ·simp only [gronx_inStepRange.l0]; rw [if_pos hs, decide_eq_true hv]
     ·simp only [gronx_inStepRange.j1]; simp
    ·refine Ev.step (f := fun k => gronx_inStepRange.j1 k val start step start true) (fun k => ?_) (Ev.step (f := fun k => gronx_inStepRange.l0 k val start step (start + step)) (fun k => ?_) (Ev.step (f := fun k => gronx_inStepRange.j1 k val start step (start + step) false) (fun k => ?_) (Ev.done fun k => ?_)))
     ·simp only [gronx_inStepRange.l0]; rw [if_pos hs, decide_eq_true hv]
     ·simp only [gronx_inStepRange.j1]; rw [if_pos trivial, if_neg hq, wrap64_id (by omega) (by omega)]
     ·simp only [gronx_inStepRange.l0]; rw [if_neg (by omega)]
     ·simp only [gronx_inStepRange.j1]; rw [if_neg (by simp), decide_eq_false (by omega)]
   ·refine Ev.step (f := fun k => gronx_inStepRange.j1 k val start step start false) (fun k => ?_) (Ev.done fun k => ?_)
    ·simp only [gronx_inStepRange.l0]; rw [if_pos hs, decide_eq_false hv]
    ·simp only [gronx_inStepRange.j1]; rw [if_neg (by simp), decide_eq_false (by omega)]
  ·refine Ev.step (f := fun k => gronx_inStepRange.j1 k val en step start false) (fun k => ?_) (Ev.done fun k => ?_)
   ·simp only [gronx_inStepRange.l0]; rw [if_neg hs]
   ·simp only [gronx_inStepRange.j1]; rw [if_neg (by simp), decide_eq_false (by omega)]
 | succ d ih =>
  intro start hd h0 h1
  by_cases hs : start ≤ en
  ·by_cases hv : start ≤ val
   ·by_cases hq : start = val
    ·subst hq
     refine Ev.step (f := fun k => gronx_inStepRange.j1 k start en step start true) (fun k => ?_) (Ev.done fun k => ?_)
     ·simp only [gronx_inStepRange.l0]; rw [if_pos hs, decide_eq_true hv]
     ·simp only [gronx_inStepRange.j1]; simp [hs]
    ·have hrec := ih (start + step) (by omega) (by omega) (by omega)
     have he : decide (start + step ≤ val ∧ val ≤ en ∧ (val - (start + step)) % step = 0) = decide (start ≤ val ∧ val ≤ en ∧ (val - start) % step = 0) := by
      have e1 : (val - (start + step)) % step = (val - start) % step := by
       rw [show val - (start + step) = (val - start) - step by omega, Int.sub_emod_right]
      rw [e1]
      by_cases hz : (val - start) % step = 0
      ·have : step ≤ val - start := Int.le_of_dvd (by omega) (Int.dvd_of_emod_eq_zero hz)
       have h2 : start + step ≤ val ↔ start ≤ val := by omega
       simp only [hz, h2]
      ·simp [hz]
     rw [he] at hrec
     refine Ev.step (f := fun k => gronx_inStepRange.j1 k val en step start true) (fun k => ?_) (Ev.step (f := fun k => gronx_inStepRange.l0 k val en step (start + step)) (fun k => ?_) hrec)
     ·simp only [gronx_inStepRange.l0]; rw [if_pos hs, decide_eq_true hv]
     ·simp only [gronx_inStepRange.j1]; rw [if_pos trivial, if_neg hq, wrap64_id (by omega) (by omega)]
   ·refine Ev.step (f := fun k => gronx_inStepRange.j1 k val en step start false) (fun k => ?_) (Ev.done fun k => ?_)
    ·simp only [gronx_inStepRange.l0]; rw [if_pos hs, decide_eq_false hv]
    ·simp only [gronx_inStepRange.j1]; rw [if_neg (by simp), decide_eq_false (by omega)]
  ·refine Ev.step (f := fun k => gronx_inStepRange.j1 k val en step start false) (fun k => ?_) (Ev.done fun k => ?_)
   ·simp only [gronx_inStepRange.l0]; rw [if_neg hs]
   ·simp only [gronx_inStepRange.j1]; rw [if_neg (by simp), decide_eq_false (by omega)]
theorem inStepRange_ev (val start en step : Int) (s0 : 1 ≤ step) (s1 : step ≤ 1000) (e1 : en ≤ 100000) (h0 : 0 ≤ start) (h1 : start ≤ 200000) :
  Ev (fun k => gronx_inStepRange.f k val start en step) (decide (start ≤ val ∧ val ≤ en ∧ (val - start) % step = 0)) := stepRange_ev val en step s0 s1 e1 _ start (Nat.le_refl _) h0 h1
theorem Ev.succ {α : Type} {g : Nat → Option α} {r : α} (h : Ev (fun k => g (k + 1)) r) : Ev g r := Ev.step (fun _ => rfl) h
end Go.Proofs.YtemgofomhjabpaaGreatDoor.Core
namespace Go.Proofs.YtemgofomhjabpaaGreatDoor.Core
open Go.RowKit Go.Proofs.YtemgofomhjabpaaGreatDoorW.PrintWords
theorem dec_head' (n : Nat) (r : List UInt8) : ∃ b t, decN n ++ r = b :: t ∧ 48 ≤ b.toNat ∧ b.toNat ≤ 57 := by
 match h : decN n, decN_ne n with
 | b :: t, _ => exact ⟨b, t ++ r, rfl, decN_digit n b (by rw [h]; simp)⟩
theorem dec_ne' (n : Nat) (r : List UInt8) (c : UInt8) (t : List UInt8) (hc : c.toNat < 48 ∨ 57 < c.toNat) : decN n ++ r ≠ c :: t := by
 obtain ⟨b, s, e, h1, h2⟩ := dec_head' n r
 rw [e]
 intro h
 have := (List.cons.inj h).1
 subst this
 omega
theorem split_two' (c : UInt8) (p q : List UInt8) (hp : c ∉ p) (hq : c ∉ q) (hl : (p ++ c :: q).length < 8796093022208) : Ev (fun k => gronx_zzSplit.f k (B (p ++ c :: q)) (B [c])) [B p, B q] := by
 have := zzSplit_ev c (p ++ c :: q) hl
 rw [splitL_at c p q hp, splitL_none c q hq] at this
 exact this
theorem idx_zero' (a : Nat) (r : List UInt8) : idxL [48, 47] (decN a ++ 45 :: r) 0 ≠ 0 := by
 obtain ⟨d, t, e, h1, h2⟩ := dec_head' a []
 rw [List.append_nil] at e
 rw [e, List.cons_append]
 intro h
 unfold idxL at h
 split at h
 ·split at h
  ·rename_i h3
   have h4 : (t ++ 45 :: r).head? = some 47 := by
    have : (d :: (t ++ 45 :: r)).take 2 = [48, 47] := h3
    cases hh : t ++ 45 :: r with
    | nil => rw [hh] at this; simp at this
    | cons u v => rw [hh] at this; simp at this; simp [this.2]
   cases t with
   | nil => simp at h4
   | cons u v =>
    have hu : u = 47 := by simpa using h4
    have := decN_digit a u (by rw [e]; simp)
    subst hu
    simp at this
  ·have := idxL_ge [48, 47] (t ++ 45 :: r) (0 + 1)
   omega
 ·exact absurd h (by decide)
theorem offC_num (c : Nat) (n : Nat) (hn : n < 100) (i : Nat) (hi : i ≤ 6) (val : Int) (lo : loB i ≤ (n : Int)) (hi' : (n : Int) ≤ hiB i) (h5 : i = 5 → n ≤ 6) : OffC c val i (B (decN n)) (decide ((n : Int) = val)) false := by
 have hl := decN_length n 1 (by simpa using hn)
 obtain ⟨K1, hK1⟩ := bounds_ev i hi
 obtain ⟨K2, hK2⟩ := contains_no 47 _ (dec_no n 47 (by decide)) (by omega)
 obtain ⟨K3, hK3⟩ := contains_no 45 _ (dec_no n 45 (by decide)) (by omega)
 have f1 := hK1 (max K1 (max K2 K3)) (by omega)
 have f2 := hK2 (max K1 (max K2 K3)) (by omega)
 have f3 := hK3 (max K1 (max K2 K3)) (by omega)
 have s1 : (B (decN n)).toList ≠ ([42] : List UInt8) := by rw [B_list]; simpa using dec_ne' n [] 42 [] (by decide)
 have s2 : (B (decN n)).toList ≠ ([63] : List UInt8) := by rw [B_list]; simpa using dec_ne' n [] 63 [] (by decide)
 have ha := atoi_two n hn
 by_cases e5 : i = 5
 ·by_cases e : (n : Int) = val
  ·rw [decide_eq_true e]; exact offNum_wd_eq c _ _ val _ i s1 s2 f1 rfl n f2 f3 ha lo hi' e5 e
  ·rw [decide_eq_false e]; exact offNum_wd_ne c _ _ val _ i s1 s2 f1 rfl n f2 f3 ha lo hi' e5 (by have := h5 e5; omega) e
 ·by_cases v0 : val = 0
  ·by_cases n0 : (n : Int) = 0
   ·rw [decide_eq_true (by omega)]; exact offNum_zz c _ _ val _ i s1 s2 f1 rfl n f2 f3 ha lo hi' e5 v0 n0
   ·rw [decide_eq_false (by omega)]; exact offNum_zn c _ _ val _ i s1 s2 f1 rfl n f2 f3 ha lo hi' e5 v0 n0
  ·by_cases n0 : (n : Int) = 0
   ·rw [decide_eq_false (by omega)]; exact offNum_nz c _ _ val _ i s1 s2 f1 rfl n f2 f3 ha lo hi' e5 v0 n0
   ·by_cases e : (n : Int) = val
    ·rw [decide_eq_true e]; exact offNum_eq c _ _ val _ i s1 s2 f1 rfl n f2 f3 ha lo hi' e5 v0 n0 e
    ·rw [decide_eq_false e]; exact offNum_ne c _ _ val _ i s1 s2 f1 rfl n f2 f3 ha lo hi' e5 v0 n0 e
theorem offC_range (c : Nat) (a b : Nat) (hb : b < 100) (hab : a ≤ b) (i : Nat) (hi : i ≤ 6) (val : Int) (lo : loB i ≤ (a : Int)) (hi' : (b : Int) ≤ hiB i) (h5 : i = 5 → b ≤ 6) : OffC c val i (B (decN a ++ 45 :: decN b)) (decide ((a : Int) ≤ val ∧ val ≤ (b : Int))) false := by
 have la := decN_length a 1 (by omega)
 have lb := decN_length b 1 (by omega)
 have hlen : (decN a ++ 45 :: decN b).length ≤ 5 := by simp; omega
 obtain ⟨K1, hK1⟩ := bounds_ev i hi
 obtain ⟨K2, hK2⟩ := contains_no 47 (decN a ++ 45 :: decN b) (by simp [dec_no a 47 (by decide), dec_no b 47 (by decide)]) (by omega)
 obtain ⟨K3, hK3⟩ := contains_yes 45 _ _ (dec_no a 45 (by decide)) (by omega : (decN a ++ 45 :: decN b).length < _)
 obtain ⟨K4, hK4⟩ := split_two' 45 _ _ (dec_no a 45 (by decide)) (dec_no b 45 (by decide)) (by omega : (decN a ++ 45 :: decN b).length < _)
 have f1 := hK1 (max (max K1 K4) (max K2 K3)) (by omega)
 have f2 := hK2 (max (max K1 K4) (max K2 K3)) (by omega)
 have f3 := hK3 (max (max K1 K4) (max K2 K3)) (by omega)
 have f4 := hK4 (max (max K1 K4) (max K2 K3)) (by omega)
 have s1 : (B (decN a ++ 45 :: decN b)).toList ≠ ([42] : List UInt8) := by rw [B_list]; exact dec_ne' a _ 42 [] (by decide)
 have s2 : (B (decN a ++ 45 :: decN b)).toList ≠ ([63] : List UInt8) := by rw [B_list]; exact dec_ne' a _ 63 [] (by decide)
 have a0 := atoi_two a (by omega)
 have b0 := atoi_two b hb
 refine offRange_w c _ _ val [loB i, hiB i] i s1 s2 f1 f2 f3 _ ?_
 by_cases e5 : i = 5
 ·have e : ((i : Int) == 5) = true := by simp; omega
  rw [e]
  have b6 := h5 e5
  by_cases hv : (a : Int) ≤ val
  ·rw [show decide ((a : Int) ≤ val ∧ val ≤ (b : Int)) = decide (val ≤ (b : Int)) from decide_eq_decide.mpr ⟨fun h => h.2, fun h => ⟨hv, h⟩⟩]
   exact range_in_wd val a b _ _ _ _ f4 rfl a0 b0 rfl (by omega) lo hi' (by omega) hv
  ·rw [decide_eq_false (fun h => hv h.1)]
   exact range_out_wd val a b _ _ _ _ f4 rfl a0 b0 rfl (by omega) lo hi' (by omega) hv
 ·have e : ((i : Int) == 5) = false := by simp; omega
  rw [e]
  by_cases hv : (a : Int) ≤ val
  ·rw [show decide ((a : Int) ≤ val ∧ val ≤ (b : Int)) = decide (val ≤ (b : Int)) from decide_eq_decide.mpr ⟨fun h => h.2, fun h => ⟨hv, h⟩⟩]
   exact range_in val a b _ _ _ _ f4 rfl a0 b0 rfl (by omega) lo hi' hv
  ·rw [decide_eq_false (fun h => hv h.1)]
   exact range_out val a b _ _ _ _ f4 rfl a0 b0 rfl (by omega) lo hi' hv
theorem offC_sstep (c : Nat) (s : Nat) (s0 : 1 ≤ s) (s1 : s < 100) (i : Nat) (hi : i ≤ 6) (val : Int) (lo : loB i ≤ val) (hv : val ≤ 10000) : OffC c val i (B (42 :: 47 :: decN s)) (decide ((val - loB i) % (s : Int) = 0)) false := by
 have ls := decN_length s 1 (by simpa using s1)
 have hb : 0 ≤ loB i := by unfold loB; split <;> omega
 have hlen : ([42] ++ 47 :: decN s).length ≤ 5 := by simp; omega
 obtain ⟨K1, hK1⟩ := bounds_ev i hi
 obtain ⟨K2, hK2⟩ := contains_yes 47 [42] (decN s) (by simp) (by omega)
 obtain ⟨K3, hK3⟩ := split_two' 47 [42] (decN s) (by simp) (dec_no s 47 (by decide)) (by omega)
 obtain ⟨K4, hK4⟩ := zzIndex_ev ([42] ++ 47 :: decN s) [42, 47] (by simp) (by omega) (by simp)
 have f1 := hK1 (max (max K1 K4) (max K2 K3)) (by omega)
 have f2 := hK2 (max (max K1 K4) (max K2 K3)) (by omega)
 have f3 := hK3 (max (max K1 K4) (max K2 K3)) (by omega)
 have f4 := hK4 (max (max K1 K4) (max K2 K3)) (by omega)
 rw [show idxL [42, 47] ([42] ++ 47 :: decN s) 0 = 0 from idxL_starSlash _] at f4
 exact offStep_w c _ _ val [loB i, hiB i] i (by rw [B_list]; simp) (by rw [B_list]; simp) f1 f2 _ (sstep_w val s _ _ _ _ _ f3 rfl (atoi_two s s1) (by omega) (by omega) f4 rfl lo (by omega) hb)
theorem offC_rstep (c : Nat) (a b s : Nat) (hb : b < 100) (hab : a ≤ b) (s0 : 1 ≤ s) (s1 : s < 100) (i : Nat) (hi : i ≤ 6) (val : Int) (lo : loB i ≤ (a : Int)) (hi' : (b : Int) ≤ hiB i) (h5 : i = 5 → b ≤ 6) : OffC c val i (B (decN a ++ 45 :: decN b ++ 47 :: decN s)) (decide ((a : Int) ≤ val ∧ val ≤ (b : Int) ∧ (val - a) % (s : Int) = 0)) false := by
 have la := decN_length a 1 (by omega)
 have lb := decN_length b 1 (by omega)
 have ls := decN_length s 1 (by omega)
 have hlen : (decN a ++ 45 :: decN b ++ 47 :: decN s).length ≤ 8 := by simp; omega
 have hlen2 : (decN a ++ 45 :: decN b).length ≤ 8 := by simp; omega
 have hno : (47 : UInt8) ∉ decN a ++ 45 :: decN b := by simp [dec_no a 47 (by decide), dec_no b 47 (by decide)]
 have n1 : idxL [42, 47] (decN a ++ 45 :: decN b ++ 47 :: decN s) 0 ≠ 0 := by
  obtain ⟨d, t, e, h1, h2⟩ := dec_head' a (45 :: decN b ++ 47 :: decN s)
  rw [List.append_assoc, e]
  refine idxL_head _ d t (fun h => ?_) (by simp)
  have : d = 42 := by simpa using h.symm
  subst this; simp at h1
 have n2 : idxL [48, 47] (decN a ++ 45 :: decN b ++ 47 :: decN s) 0 ≠ 0 := by rw [List.append_assoc]; exact idx_zero' a _
 have hg : ∀ v : Int, Ev (fun k => gronx_inStepRange.f k v a b s) (decide ((a : Int) ≤ v ∧ v ≤ (b : Int) ∧ (v - a) % (s : Int) = 0)) := fun v => inStepRange_ev v a b s (by omega) (by omega) (by omega) (by omega) (by omega)
 obtain ⟨K1, hK1⟩ := bounds_ev i hi
 obtain ⟨K2, hK2⟩ := contains_yes 47 (decN a ++ 45 :: decN b) (decN s) hno (by omega)
 obtain ⟨K3, hK3⟩ := split_two' 47 (decN a ++ 45 :: decN b) (decN s) hno (dec_no s 47 (by decide)) (by omega)
 obtain ⟨K4, hK4⟩ := zzIndex_ev (decN a ++ 45 :: decN b ++ 47 :: decN s) [42, 47] (by simp) (by omega) (by simp)
 obtain ⟨K5, hK5⟩ := zzIndex_ev (decN a ++ 45 :: decN b ++ 47 :: decN s) [48, 47] (by simp) (by omega) (by simp)
 obtain ⟨K6, hK6⟩ := split_two' 45 (decN a) (decN b) (dec_no a 45 (by decide)) (dec_no b 45 (by decide)) (by omega)
 obtain ⟨K7, hK7⟩ := hg val
 obtain ⟨K8, hK8⟩ := hg 0
 obtain ⟨K9, hK9⟩ := hg 7
 obtain ⟨K, hK⟩ : ∃ K, K1 ≤ K ∧ K2 ≤ K ∧ K3 ≤ K ∧ K4 ≤ K ∧ K5 ≤ K ∧ K6 ≤ K ∧ K7 ≤ K ∧ K8 ≤ K ∧ K9 ≤ K := ⟨K1 + K2 + K3 + K4 + K5 + K6 + K7 + K8 + K9, by omega⟩
 have f1 := hK1 K (by omega)
 have f2 := hK2 K (by omega)
 have f3 := hK3 K (by omega)
 have f4 := hK4 K (by omega)
 have f5 := hK5 K (by omega)
 have f6 := hK6 K (by omega)
 have f7 := hK7 K (by omega)
 have f8 := hK8 K (by omega)
 have f9 := hK9 K (by omega)
 have a0 := atoi_two a (by omega)
 have b0 := atoi_two b hb
 have s0' := atoi_two s s1
 refine offStep_w c _ K val [loB i, hiB i] i (by rw [B_list, List.append_assoc]; exact dec_ne' a _ 42 [] (by decide)) (by rw [B_list, List.append_assoc]; exact dec_ne' a _ 63 [] (by decide)) f1 f2 _ ?_
 by_cases e5 : i = 5
 ·have e : ((i : Int) == 5) = true := by simp; omega
  rw [e]
  have b6 := h5 e5
  by_cases hv : val = 0
  ·subst hv
   by_cases hq : (a : Int) ≤ 0 ∧ (0 : Int) ≤ (b : Int) ∧ ((0 : Int) - a) % (s : Int) = 0
   ·rw [decide_eq_true hq] at f8 ⊢
    exact rstep_zero_yes s a b _ [loB i, hiB i] K _ _ _ _ f3 rfl s0' (by omega) f4 n1 f5 n2 f6 rfl a0 b0 rfl (by omega) lo hi' (by omega) f8
   ·rw [decide_eq_false hq] at f8 ⊢
    rw [decide_eq_false (by omega)] at f9
    exact rstep_zero_no s a b _ [loB i, hiB i] K _ _ _ _ f3 rfl s0' (by omega) f4 n1 f5 n2 f6 rfl a0 b0 rfl (by omega) lo hi' (by omega) _ f8 f9
  ·exact rstep_wd val s a b _ [loB i, hiB i] K _ _ _ _ f3 rfl s0' (by omega) f4 n1 f5 n2 f6 rfl a0 b0 rfl (by omega) lo hi' (by omega) hv _ f7
 ·have e : ((i : Int) == 5) = false := by simp; omega
  rw [e]
  exact rstep_plain val s a b _ [loB i, hiB i] K _ _ _ _ f3 rfl s0' (by omega) f4 n1 f5 n2 f6 rfl a0 b0 rfl (by omega) lo hi' _ f7
end Go.Proofs.YtemgofomhjabpaaGreatDoor.Core
namespace Go.Proofs.YtemgofomhjabpaaGreatDoor.Core
open Go.RowKit Go.Proofs.YtemgofomhjabpaaGreatDoorW.PrintWords
theorem decInt (n : Int) (h : 0 ≤ n) : ((n.toNat : Nat) : Int) = n := by omega
theorem hiB_ge (i : Nat) (hi : i < 6) : highI i ≤ hiB i ∧ loB i = lowI i ∧ (i = 5 → highI i ≤ 6) := by
 match i, hi with
 | 0, _ | 1, _ | 2, _ | 3, _ | 4, _ | 5, _ => decide
theorem offC_item (c : Nat) (i : Nat) (hi : i < 6) (x : It) (hg : goodItem i x = true) (n : Int) (n0 : lowI i ≤ n) (n1 : n ≤ highI i) :
  OffC c n i (B (itemL x)) (hasIt i x n) false := by
 obtain ⟨s1, s2, hr⟩ := goodItem_spec hg
 obtain ⟨b1, b2, b3⟩ := hiB_ge i hi
 have hlo := lowI_ge i
 have hle := highI_le i
 by_cases h0 : x.f0 = true
 ·have e0 : hasIt i x n = decide ((n - lowI i) % x.f3 = 0) := by simp [hasIt, h0, n0, n1]
  by_cases hs : 1 < x.f3
  ·have := offC_sstep c x.f3.toNat (by omega) (by omega) i (by omega) n (by omega) (by omega)
   rw [decInt _ (by omega), b2] at this
   rw [e0, show itemL x = 42 :: 47 :: decN x.f3.toNat by simp [itemL, h0, stepL, hs]]
   exact this
  ·have h1 : x.f3 = 1 := by omega
   rw [e0, show itemL x = [42] by simp [itemL, h0, stepL, hs], h1, decide_eq_true (by omega)]
   exact offStar_w c n i
 ·have h0' : x.f0 = false := by simpa using h0
  obtain ⟨r1, r2, r3, r4, r5⟩ := hr h0'
  have e0 : hasIt i x n = decide (x.f1 ≤ n ∧ n ≤ x.f2 ∧ (n - x.f1) % x.f3 = 0) := by simp [hasIt, h0']
  by_cases hs : 1 < x.f3
  ·have := offC_rstep c x.f1.toNat x.f2.toNat x.f3.toNat (by omega) (by omega) (by omega) (by omega) i (by omega) n (by omega) (by omega) (fun h => by have := b3 h; omega)
   rw [decInt _ (by omega), decInt _ (by omega), decInt _ (by omega)] at this
   rw [e0, show itemL x = decN x.f1.toNat ++ 45 :: decN x.f2.toNat ++ 47 :: decN x.f3.toNat by simp [itemL, h0', stepL, hs]]
   exact this
  ·have h1 : x.f3 = 1 := by omega
   by_cases hq : x.f1 < x.f2
   ·have := offC_range c x.f1.toNat x.f2.toNat (by omega) (by omega) i (by omega) n (by omega) (by omega) (fun h => by have := b3 h; omega)
    rw [decInt _ (by omega), decInt _ (by omega)] at this
    rw [e0, show itemL x = decN x.f1.toNat ++ 45 :: decN x.f2.toNat by simp [itemL, h0', stepL, hs, hq], h1, show decide (x.f1 ≤ n ∧ n ≤ x.f2 ∧ (n - x.f1) % 1 = 0) = decide (x.f1 ≤ n ∧ n ≤ x.f2) by simp [Int.emod_one]]
    exact this
   ·have := offC_num c x.f1.toNat (by omega) i (by omega) n (by omega) (by omega) (fun h => by have := b3 h; omega)
    rw [decInt _ (by omega)] at this
    rw [e0, show itemL x = decN x.f1.toNat by simp [itemL, h0', stepL, hs, hq], h1, show decide (x.f1 ≤ n ∧ n ≤ x.f2 ∧ (n - x.f1) % 1 = 0) = decide (x.f1 = n) by simp only [Int.emod_one, and_true]; exact decide_eq_decide.mpr (by omega)]
    exact this
end Go.Proofs.YtemgofomhjabpaaGreatDoor.Core
namespace Go.Proofs.YtemgofomhjabpaaGreatDoor.Core
open Go.RowKit Go.Proofs.YtemgofomhjabpaaGreatDoorW.PrintWords
theorem any_from (l m : List UInt8) (hl : l.length < 4611686018427387904) (hm : m.length < 4611686018427387904) :
  ∀ (rest : List UInt8) (i : Nat), l.drop i = rest → i ≤ l.length → Ev (fun k => gronx_zzContainsAny.l0 k (B l) (B m) (i : Int)) (rest.any fun b => m.contains b) := by
 intro rest
 induction rest with
 | nil =>
  intro i hi hil
  have hlen : l.length ≤ i := List.drop_eq_nil_iff.1 hi
  refine Ev.done fun k => ?_
  simp only [gronx_zzContainsAny.l0, B_size]
  rw [if_neg (by omega)]
  rfl
 | cons b t ih =>
  intro i hi hil
  have hlen : t.length + 1 = l.length - i := by have := congrArg List.length hi; simpa using this.symm
  have hlt : i < l.length := by omega
  have hb : l[i] = b := by
   have := List.drop_eq_getElem_cons hlt
   rw [hi] at this
   exact (List.cons.inj this).1.symm
  have ht : l.drop (i + 1) = t := by rw [← List.drop_drop, hi]; rfl
  have hrec := ih (i + 1) ht (by omega)
  have inner : ∀ (rm : List UInt8) (j : Nat), m.drop j = rm → j ≤ m.length → Ev (fun k => gronx_zzContainsAny.l1 k (B l) (B m) (i : Int) (j : Int)) (rm.contains b || t.any fun b => m.contains b) := by
   intro rm
   induction rm with
   | nil =>
    intro j hj hjl
    have hlen : m.length ≤ j := List.drop_eq_nil_iff.1 hj
    refine Ev.step (f := fun k => gronx_zzContainsAny.l0 k (B l) (B m) ((i + 1 : Nat) : Int)) (fun k => ?_) (by simpa using hrec)
    simp only [gronx_zzContainsAny.l1, B_size]
    rw [if_neg (by omega), wrap64_nat i (by omega)]
   | cons c s ihs =>
    intro j hj hjl
    have hlen : s.length + 1 = m.length - j := by have := congrArg List.length hj; simpa using this.symm
    have hjt : j < m.length := by omega
    have hc : m[j] = c := by
     have := List.drop_eq_getElem_cons hjt
     rw [hj] at this
     exact (List.cons.inj this).1.symm
    have hs : m.drop (j + 1) = s := by rw [← List.drop_drop, hj]; rfl
    have e1 : bt (B l) (i : Int) = (b.toNat : Int) := by rw [bt_B_at l i hlt, hb]
    have e2 : bt (B m) (j : Int) = (c.toNat : Int) := by rw [bt_B_at m j hjt, hc]
    by_cases hbc : b = c
    ·refine Ev.done fun k => ?_
     simp only [gronx_zzContainsAny.l1, B_size, e1, e2]
     rw [if_pos (by omega), if_pos (by omega), if_pos (by omega), if_pos (by omega), if_pos (by rw [hbc])]
     simp [hbc]
    ·have hne : ¬ ((b.toNat : Int) = (c.toNat : Int)) := fun e => hbc (UInt8.toNat_inj.1 (by omega))
     refine Ev.step (f := fun k => gronx_zzContainsAny.l1 k (B l) (B m) (i : Int) ((j + 1 : Nat) : Int)) (fun k => ?_) (by simpa [hbc] using ihs (j + 1) hs (by omega))
     simp only [gronx_zzContainsAny.l1, B_size, e1, e2]
     rw [if_pos (by omega), if_pos (by omega), if_pos (by omega), if_pos (by omega), if_neg hne, wrap64_nat j (by omega)]
  refine Ev.step (f := fun k => gronx_zzContainsAny.l1 k (B l) (B m) (i : Int) ((0 : Nat) : Int)) (fun k => ?_) (inner m 0 rfl (Nat.zero_le _))
  simp only [gronx_zzContainsAny.l0, B_size]
  rw [if_pos (by omega)]
  rfl
theorem any_ev (l m : List UInt8) (hl : l.length < 4611686018427387904) (hm : m.length < 4611686018427387904) : Ev (fun k => gronx_zzContainsAny.f k (B l) (B m)) (l.any fun b => m.contains b) := any_from l m hl hm l 0 rfl (Nat.zero_le _)
theorem rdOf_map (P : List (List UInt8)) (j : Nat) (h : j < P.length) : rdOf ByteArray.empty (P.map B) (j : Int) = B P[j] := by simp [rdOf, h]
end Go.Proofs.YtemgofomhjabpaaGreatDoor.Core
namespace Go.Proofs.YtemgofomhjabpaaGreatDoor.Core
open Go.RowKit Go.Proofs.YtemgofomhjabpaaGreatDoorW.PrintWords
theorem below_drewNd {w W : World} (h : Below w.heap.size w W) (n : Nat) : Below w.heap.size w (W.drewN n) := below_drewN h n
set_option maxRecDepth 100000 in
set_option maxHeartbeats 800000 in
theorem ck_three (c : Nat) {x y mo d h mi s : Int} (M : Moment' x y mo d h mi s) (seg : ByteArray) (pos : Nat) (hp : pos < 7) (h3 : pos = 3) (k : Nat) (offs : List ByteArray) (hs : gronx_zzSplit.f k seg ⟨#[44]⟩ = some offs) (hn : offs.length < 1000000) (hm : ∀ o ∈ offs, gronx_zzContainsAny.f k o ⟨#[76, 87, 35]⟩ = some false)
  (b er : Bool) (hD : DueL c (posV y mo d h mi s pos) pos offs b er) (w : World) (hc0 : w.cell? ⟨c, 0, none⟩ = some (.int .u64 0)) (hc1 : w.cell? ⟨c, 1, none⟩ = some (.int .i64 x)) (hc2 : w.cell? ⟨c, 2, none⟩ = some (.pointer none)) :
  Calls Tryz.prog 111 #[.pointer (some ⟨c, 0, none⟩), .string seg, .int .i64 (pos : Int)] w fun e w' => ∃ ev, e = .returned (.tuple #[.bool b, ev]) ∧ ErrV er ev ∧ Below w.heap.size w w' := by
 have e3 : ((pos : Int) == 3) = true := by simp; omega
 have e5 : ((pos : Int) == 5) = false := by simp; omega
 clear h3
 have M := Aside0.mk M
 have hs := Aside0.mk hs
 have hD := Aside0.mk hD
 have hp := Aside0.mk hp
 go_enter Tryz.func111, Tryz.ntmps111
 go_wp2_with (go_at_call 112; refine (getRef_w c x _ hc0 hc1 hc2).mono ?_; rintro e w1 ⟨rfl, hb1⟩)
 go_region_held (fun w' => w1.heap.size < w'.heap.size ∧ w'.cell? ⟨w1.heap.size, 0, none⟩ = some (.int .u64 0) ∧ w'.cell? ⟨w1.heap.size, 1, none⟩ = some (.int .i64 x) ∧ w'.cell? ⟨w1.heap.size, 2, none⟩ = some (.pointer none))
  (first | exact SX.below hb2 (by assumption) | exact SX.below hb3 (by assumption) | go_keep | (trace_state; fail)) (first | (go_at_call 114; refine (val_w M.out pos hp.out _).mono ?_; rintro e w2 ⟨rfl, hb2⟩) | (go_at_call 115; refine (location_any x _).mono ?_; rintro e w3 ⟨bl, rfl, hlo, hlu, hb3⟩))
 rename_i hHeld
 clear hHeld
 have HB : Below w.heap.size w w3 := (below_step (below_step (below_drew1 (below_alloc hb1 _)) hb2) hb3)
 have HB := Aside0.mk HB
 clear hb1 hb2 hb3 hlo hlu hc0 hc1 hc2
 go_wp2_with (go_at_call 62; refine (gronx_zzSplit.calls k seg ⟨#[44]⟩ offs _ hs.out).mono ?_; rintro e w4 ⟨v0, rfl, hR, hb4⟩; obtain ⟨A, cc, rfl⟩ := Kd.R_slice hR)
 have HR := Aside0.mk (Kd.R_reads' hR).2.2
 have HB4 := Aside0.mk (below_step HB.out hb4)
 clear hR hb4 HB
 go_loopg [31] offs.length (fun kq v31 w' => ∃ (j : Nat), v31 = .int .i64 (j : Int) ∧ Aside0 (DueL c (posV y mo d h mi s pos) pos (offs.drop j) b er) ∧ Aside0 (kq + j = offs.length) ∧ Aside0 (Below w4.heap.size w4 w'))
 case atStart => exact ⟨0, rfl, hD, ⟨rfl⟩, ⟨by repeat (first | exact Below.refl _ _ | apply below_drew1 | apply pw_below_drewN)⟩⟩
 case round =>
  clear hD
  obtain ⟨j, rfl, HD, HK, HW⟩ := hrel
  by_cases hj : j < offs.length
  ·have q : ((j : Int) < (offs.length : Int)) := by omega
   have p0 : 0 ≤ (j : Int) := by omega
   have q0 : decide ((j : Int) < (offs.length : Int)) = true := decide_eq_true q
   obtain ⟨ad, rfl, hx⟩ := Kd.at_string HR.out (j : Int) p0 q
   replace hx := cell_after HW.out hx
   rw [rdOf_nat _ _ hj, Int.toNat_natCast] at hx
   have HD' := HD.out
   rw [List.drop_eq_getElem_cons hj] at HD'
   obtain ⟨b1, e1, hoff, hif⟩ := HD'
   have hmo := Aside0.mk (hm _ (List.getElem_mem hj))
   have hoff := Aside0.mk hoff
   have hif := Aside0.mk hif
   clear HD
   have hb : ∀ W, Below W.heap.size W W := fun W => Below.refl _ _
   cases b1 with
   | true =>
    obtain ⟨rfl, rfl⟩ : b = true ∧ er = e1 := by have := hif.out; simpa using this
    go_wp2_with (first | (go_at_call 116; refine (gronx_zzContainsAny.calls k _ _ false _ hmo.out).mono ?_; rintro e w' ⟨rfl, ⟨nd, rfl⟩⟩) | (go_at_call 117; refine (hoff.out _).mono ?_; rintro e w5 ⟨ev, rfl, hev, hb5⟩))
    go_ret2
    exact ⟨ev, rfl, hev, below_step (below_drewNd (below_step HB4.out HW.out) _) hb5⟩
   | false =>
    cases e1 with
    | true =>
     obtain ⟨rfl, rfl⟩ : b = false ∧ er = true := by have := hif.out; simpa using this
     go_wp2_with (first | (go_at_call 116; refine (gronx_zzContainsAny.calls k _ _ false _ hmo.out).mono ?_; rintro e w' ⟨rfl, ⟨nd, rfl⟩⟩) | (go_at_call 117; refine (hoff.out _).mono ?_; rintro e w5 ⟨ev, rfl, hev, hb5⟩; obtain ⟨te, ve, rfl⟩ := ErrV.err hev))
     go_ret2
     exact ⟨_, rfl, hev, below_step (below_drewNd (below_step HB4.out HW.out) _) hb5⟩
    | false =>
     have hr : DueL c (posV y mo d h mi s pos) pos (offs.drop (j + 1)) b er := by have := hif.out; simpa using this
     have hr := Aside0.mk hr
     go_wp2_with (first | (go_at_call 116; refine (gronx_zzContainsAny.calls k _ _ false _ hmo.out).mono ?_; rintro e w' ⟨rfl, ⟨nd, rfl⟩⟩) | (go_at_call 117; refine (hoff.out _).mono ?_; rintro e w5 ⟨ev, rfl, hev, hb5⟩; obtain rfl := ErrV.nil hev))
     go_roundg (gk - 1)
     case measure => have := HK.out; omega
     case rel => exact ⟨j + 1, by simp, hr, ⟨by have := HK.out; omega⟩, ⟨by repeat (first | exact below_step (below_drewNd HW.out _) hb5 | apply below_drew1 | apply pw_below_drewN)⟩⟩
  ·have q0 : decide ((j : Int) < (offs.length : Int)) = false := decide_eq_false (by omega)
   have HD' := HD.out
   rw [List.drop_eq_nil_of_le (by omega)] at HD'
   obtain ⟨rfl, rfl⟩ := HD'
   go_wp2
   go_ret2
   exact ⟨_, rfl, .inl ⟨rfl, rfl⟩, below_step HB4.out HW.out⟩
set_option maxRecDepth 100000 in
set_option maxHeartbeats 800000 in
theorem ck_five (c : Nat) {x y mo d h mi s : Int} (M : Moment' x y mo d h mi s) (seg : ByteArray) (pos : Nat) (hp : pos < 7) (h5 : pos = 5) (k : Nat) (offs : List ByteArray) (hs : gronx_zzSplit.f k seg ⟨#[44]⟩ = some offs) (hn : offs.length < 1000000) (hm : ∀ o ∈ offs, gronx_zzContainsAny.f k o ⟨#[76, 87, 35]⟩ = some false)
  (b er : Bool) (hD : DueL c (posV y mo d h mi s pos) pos offs b er) (w : World) (hc0 : w.cell? ⟨c, 0, none⟩ = some (.int .u64 0)) (hc1 : w.cell? ⟨c, 1, none⟩ = some (.int .i64 x)) (hc2 : w.cell? ⟨c, 2, none⟩ = some (.pointer none)) :
  Calls Tryz.prog 111 #[.pointer (some ⟨c, 0, none⟩), .string seg, .int .i64 (pos : Int)] w fun e w' => ∃ ev, e = .returned (.tuple #[.bool b, ev]) ∧ ErrV er ev ∧ Below w.heap.size w w' := by
 have e3 : ((pos : Int) == 3) = false := by simp; omega
 have e5 : ((pos : Int) == 5) = true := by simp; omega
 clear h5
 have M := Aside0.mk M
 have hs := Aside0.mk hs
 have hD := Aside0.mk hD
 have hp := Aside0.mk hp
 go_enter Tryz.func111, Tryz.ntmps111
 go_wp2_with (go_at_call 112; refine (getRef_w c x _ hc0 hc1 hc2).mono ?_; rintro e w1 ⟨rfl, hb1⟩)
 go_region_held (fun w' => w1.heap.size < w'.heap.size ∧ w'.cell? ⟨w1.heap.size, 0, none⟩ = some (.int .u64 0) ∧ w'.cell? ⟨w1.heap.size, 1, none⟩ = some (.int .i64 x) ∧ w'.cell? ⟨w1.heap.size, 2, none⟩ = some (.pointer none))
  (first | exact SX.below hb2 (by assumption) | exact SX.below hb3 (by assumption) | go_keep | (trace_state; fail)) (first | (go_at_call 114; refine (val_w M.out pos hp.out _).mono ?_; rintro e w2 ⟨rfl, hb2⟩) | (go_at_call 115; refine (location_any x _).mono ?_; rintro e w3 ⟨bl, rfl, hlo, hlu, hb3⟩))
 rename_i hHeld
 clear hHeld
 have HB : Below w.heap.size w w3 := (below_step (below_step (below_drew1 (below_alloc hb1 _)) hb2) hb3)
 have HB := Aside0.mk HB
 clear hb1 hb2 hb3 hlo hlu hc0 hc1 hc2
 go_wp2_with (go_at_call 62; refine (gronx_zzSplit.calls k seg ⟨#[44]⟩ offs _ hs.out).mono ?_; rintro e w4 ⟨v0, rfl, hR, hb4⟩; obtain ⟨A, cc, rfl⟩ := Kd.R_slice hR)
 have HR := Aside0.mk (Kd.R_reads' hR).2.2
 have HB4 := Aside0.mk (below_step HB.out hb4)
 clear hR hb4 HB
 go_loopg [31] offs.length (fun kq v31 w' => ∃ (j : Nat), v31 = .int .i64 (j : Int) ∧ Aside0 (DueL c (posV y mo d h mi s pos) pos (offs.drop j) b er) ∧ Aside0 (kq + j = offs.length) ∧ Aside0 (Below w4.heap.size w4 w'))
 case atStart => exact ⟨0, rfl, hD, ⟨rfl⟩, ⟨by repeat (first | exact Below.refl _ _ | apply below_drew1 | apply pw_below_drewN)⟩⟩
 case round =>
  clear hD
  obtain ⟨j, rfl, HD, HK, HW⟩ := hrel
  by_cases hj : j < offs.length
  ·have q : ((j : Int) < (offs.length : Int)) := by omega
   have p0 : 0 ≤ (j : Int) := by omega
   have q0 : decide ((j : Int) < (offs.length : Int)) = true := decide_eq_true q
   obtain ⟨ad, rfl, hx⟩ := Kd.at_string HR.out (j : Int) p0 q
   replace hx := cell_after HW.out hx
   rw [rdOf_nat _ _ hj, Int.toNat_natCast] at hx
   have HD' := HD.out
   rw [List.drop_eq_getElem_cons hj] at HD'
   obtain ⟨b1, e1, hoff, hif⟩ := HD'
   have hmo := Aside0.mk (hm _ (List.getElem_mem hj))
   have hoff := Aside0.mk hoff
   have hif := Aside0.mk hif
   clear HD
   have hb : ∀ W, Below W.heap.size W W := fun W => Below.refl _ _
   cases b1 with
   | true =>
    obtain ⟨rfl, rfl⟩ : b = true ∧ er = e1 := by have := hif.out; simpa using this
    go_wp2_with (first | (go_at_call 116; refine (gronx_zzContainsAny.calls k _ _ false _ hmo.out).mono ?_; rintro e w' ⟨rfl, ⟨nd, rfl⟩⟩) | (go_at_call 117; refine (hoff.out _).mono ?_; rintro e w5 ⟨ev, rfl, hev, hb5⟩))
    go_ret2
    exact ⟨ev, rfl, hev, below_step (below_drewNd (below_step HB4.out HW.out) _) hb5⟩
   | false =>
    cases e1 with
    | true =>
     obtain ⟨rfl, rfl⟩ : b = false ∧ er = true := by have := hif.out; simpa using this
     go_wp2_with (first | (go_at_call 116; refine (gronx_zzContainsAny.calls k _ _ false _ hmo.out).mono ?_; rintro e w' ⟨rfl, ⟨nd, rfl⟩⟩) | (go_at_call 117; refine (hoff.out _).mono ?_; rintro e w5 ⟨ev, rfl, hev, hb5⟩; obtain ⟨te, ve, rfl⟩ := ErrV.err hev))
     go_ret2
     exact ⟨_, rfl, hev, below_step (below_drewNd (below_step HB4.out HW.out) _) hb5⟩
    | false =>
     have hr : DueL c (posV y mo d h mi s pos) pos (offs.drop (j + 1)) b er := by have := hif.out; simpa using this
     have hr := Aside0.mk hr
     go_wp2_with (first | (go_at_call 116; refine (gronx_zzContainsAny.calls k _ _ false _ hmo.out).mono ?_; rintro e w' ⟨rfl, ⟨nd, rfl⟩⟩) | (go_at_call 117; refine (hoff.out _).mono ?_; rintro e w5 ⟨ev, rfl, hev, hb5⟩; obtain rfl := ErrV.nil hev))
     go_roundg (gk - 1)
     case measure => have := HK.out; omega
     case rel => exact ⟨j + 1, by simp, hr, ⟨by have := HK.out; omega⟩, ⟨by repeat (first | exact below_step (below_drewNd HW.out _) hb5 | apply below_drew1 | apply pw_below_drewN)⟩⟩
  ·have q0 : decide ((j : Int) < (offs.length : Int)) = false := decide_eq_false (by omega)
   have HD' := HD.out
   rw [List.drop_eq_nil_of_le (by omega)] at HD'
   obtain ⟨rfl, rfl⟩ := HD'
   go_wp2
   go_ret2
   exact ⟨_, rfl, .inl ⟨rfl, rfl⟩, below_step HB4.out HW.out⟩
end Go.Proofs.YtemgofomhjabpaaGreatDoor.Core
namespace Go.Proofs.YtemgofomhjabpaaGreatDoor.Core
open Go.RowKit Go.Proofs.YtemgofomhjabpaaGreatDoorW.PrintWords
def SegA (x : Int) (seg : ByteArray) (pos : Nat) (b er : Bool) : Prop := ∀ (c : Nat) (w : World), w.cell? ⟨c, 0, none⟩ = some (.int .u64 0) → w.cell? ⟨c, 1, none⟩ = some (.int .i64 x) → w.cell? ⟨c, 2, none⟩ = some (.pointer none) →
  Calls Tryz.prog 111 #[.pointer (some ⟨c, 0, none⟩), .string seg, .int .i64 (pos : Int)] w fun e w' => ∃ ev, e = .returned (.tuple #[.bool b, ev]) ∧ ErrV er ev ∧ Below w.heap.size w w'
theorem segA_of {x y mo d h mi s : Int} (M : Moment' x y mo d h mi s) (seg : ByteArray) (pos : Nat) (hp : pos < 7) (k : Nat) (offs : List ByteArray) (hs : gronx_zzSplit.f k seg ⟨#[44]⟩ = some offs) (hn : offs.length < 1000000)
  (hm : pos = 3 ∨ pos = 5 → ∀ o ∈ offs, gronx_zzContainsAny.f k o ⟨#[76, 87, 35]⟩ = some false) (b er : Bool) (hD : ∀ c, DueL c (posV y mo d h mi s pos) pos offs b er) : SegA x seg pos b er := by
 intro c w h0 h1 h2
 by_cases h3 : pos = 3
 ·exact ck_three c M seg pos hp h3 k offs hs hn (hm (.inl h3)) b er (hD c) w h0 h1 h2
 ·by_cases h5 : pos = 5
  ·exact ck_five c M seg pos hp h5 k offs hs hn (hm (.inr h5)) b er (hD c) w h0 h1 h2
  ·exact ck_other c M seg pos hp h3 h5 k offs hs hn b er (hD c) w h0 h1 h2
end Go.Proofs.YtemgofomhjabpaaGreatDoor.Core
namespace Go.Proofs.YtemgofomhjabpaaGreatDoor.Core
open Go.RowKit Go.Proofs.YtemgofomhjabpaaGreatDoorW.PrintWords
theorem new_w (w : World) : Calls Tryz.prog 31 #[] w fun e w' => e = .returned (.pointer (some ⟨w.heap.size + 1, 0, none⟩)) ∧ (w.alloc (.cells #[.int .u64 0, .int .i64 0, .pointer none] 94)).alloc (.cells #[.iface 92 (.pointer (some ⟨w.heap.size, 0, none⟩))] 98) = w' := by
 go_enter Tryz.func31, Tryz.ntmps31
 go_wp2
 go_ret
 exact ⟨rfl, rfl⟩
theorem setRef_w (c : Nat) (x : Int) (w : World) (v0 v1 v2 : Value) (h0 : w.cell? ⟨c, 0, none⟩ = some v0) (h1 : w.cell? ⟨c, 1, none⟩ = some v1) (h2 : w.cell? ⟨c, 2, none⟩ = some v2) (f0 : w.frozen? ⟨c, 0, none⟩ = false) (f1 : w.frozen? ⟨c, 1, none⟩ = false) (f2 : w.frozen? ⟨c, 2, none⟩ = false) :
  Calls Tryz.prog 113 #[.pointer (some ⟨c, 0, none⟩), .agg #[.int .u64 0, .int .i64 x, .pointer none]] w fun e w' => e = .returned (.tuple #[]) ∧
   ((((w.alloc (.cells #[.int .u64 0, .int .i64 x, .pointer none] 79)).setCell ⟨c, 0, none⟩ (.int .u64 0)).setCell ⟨c, 1, none⟩ (.int .i64 x)).setCell ⟨c, 2, none⟩ (.pointer none)) = w' := by
 have hc : c < w.heap.size := World.block_lt_of_cell? w ⟨c, 0, none⟩ h0
 have hne : c ≠ w.heap.size := Nat.ne_of_lt hc
 have hne' : w.heap.size ≠ c := Nat.ne_of_gt hc
 go_enter Tryz.func113, Tryz.ntmps113
 go_wp2
 go_end0
 exact ⟨rfl, by go_simp⟩
end Go.Proofs.YtemgofomhjabpaaGreatDoor.Core
namespace Go.Proofs.YtemgofomhjabpaaGreatDoor.Core
open Go.RowKit
theorem nil_setRef (w : World) (C : Addr) : (nilAhead 362 92 (.pointer (some C)) "SetRef").run Tryz.prog w = .ok (some false) w := by kernel_rfl
theorem m_setRef (w : World) (C : Addr) : (method 362 92 (.pointer (some C)) "SetRef").run Tryz.prog w = .ok (113, .pointer (some C)) w := by kernel_rfl
theorem nil_check (w : World) (C : Addr) : (nilAhead 362 92 (.pointer (some C)) "CheckDue").run Tryz.prog w = .ok (some false) w := by kernel_rfl
theorem m_check (w : World) (C : Addr) : (method 362 92 (.pointer (some C)) "CheckDue").run Tryz.prog w = .ok (111, .pointer (some C)) w := by kernel_rfl
end Go.Proofs.YtemgofomhjabpaaGreatDoor.Core
namespace Go.Proofs.YtemgofomhjabpaaGreatDoor.Core
open Go.RowKit Go.Proofs.YtemgofomhjabpaaGreatDoorW.PrintWords
def DueW (G C : Nat) (x : Int) (segs : List ByteArray) (b er : Bool) : Prop := ∀ (W : World) (A : Option Addr) (cc : Nat), W.cell? ⟨G, 0, none⟩ = some (.iface 92 (.pointer (some ⟨C, 0, none⟩))) →
  W.cell? ⟨C, 0, none⟩ = some (.int .u64 0) → W.cell? ⟨C, 1, none⟩ = some (.int .i64 x) → W.cell? ⟨C, 2, none⟩ = some (.pointer none) → Kd.C Kd.string W A segs.length segs → segs.length ≤ cc →
  Calls Tryz.prog 42 #[.pointer (some ⟨G, 0, none⟩), .slice A segs.length cc] W fun e w' => ∃ ev, e = .returned (.tuple #[.bool b, ev]) ∧ ErrV er ev ∧ Below W.heap.size W w'
def SD (G C R : Nat) (x : Int) (w' : World) : Prop := w'.cell? ⟨G, 0, none⟩ = some (.iface 92 (.pointer (some ⟨C, 0, none⟩))) ∧ w'.cell? ⟨R, 0, none⟩ = some (.int .u64 0) ∧ w'.cell? ⟨R, 1, none⟩ = some (.int .i64 x) ∧ w'.cell? ⟨R, 2, none⟩ = some (.pointer none)
theorem SD.set {G C R j : Nat} {x : Int} {w : World} {v : Value} (hCG : C ≠ G) (hCR : C ≠ R) (h : SD G C R x w) : SD G C R x (w.setCell ⟨C, j, none⟩ v) :=
 ⟨(set_other (fun h => hCG (congrArg Addr.block h))).trans h.1, (set_other (fun h => hCR (congrArg Addr.block h))).trans h.2.1, (set_other (fun h => hCR (congrArg Addr.block h))).trans h.2.2.1, (set_other (fun h => hCR (congrArg Addr.block h))).trans h.2.2.2⟩
theorem SD.alloc {G C R : Nat} {x : Int} {w : World} (o : Obj) (h : SD G C R x w) : SD G C R x (w.alloc o) :=
 have hb : Below w.heap.size w (w.alloc o) := (Below.refl _ _).alloc (Nat.le_refl _) o
 ⟨cell_after hb h.1, cell_after hb h.2.1, cell_after hb h.2.2.1, cell_after hb h.2.2.2⟩
theorem set_alloc {w : World} {B C G : Nat} {x : Int} {v0 v1 v2 vg : Value} (hg : w.cell? ⟨G, 0, none⟩ = some vg) (h0 : w.cell? ⟨C, 0, none⟩ = some v0) (h1 : w.cell? ⟨C, 1, none⟩ = some v1) (h2 : w.cell? ⟨C, 2, none⟩ = some v2) (hCG : C ≠ G) (hB : B ≤ C) :
  (((((w.alloc (.cells #[.int .u64 0, .int .i64 x, .pointer none] 79)).setCell ⟨C, 0, none⟩ (.int .u64 0)).setCell ⟨C, 1, none⟩ (.int .i64 x)).setCell ⟨C, 2, none⟩ (.pointer none)).drew).cell? ⟨G, 0, none⟩ = some vg ∧ (((((w.alloc (.cells #[.int .u64 0, .int .i64 x, .pointer none] 79)).setCell ⟨C, 0, none⟩ (.int .u64 0)).setCell ⟨C, 1, none⟩ (.int .i64 x)).setCell ⟨C, 2, none⟩ (.pointer none)).drew).cell? ⟨C, 0, none⟩ = some (.int .u64 0) ∧ (((((w.alloc (.cells #[.int .u64 0, .int .i64 x, .pointer none] 79)).setCell ⟨C, 0, none⟩ (.int .u64 0)).setCell ⟨C, 1, none⟩ (.int .i64 x)).setCell ⟨C, 2, none⟩ (.pointer none)).drew).cell? ⟨C, 1, none⟩ = some (.int .i64 x) ∧ (((((w.alloc (.cells #[.int .u64 0, .int .i64 x, .pointer none] 79)).setCell ⟨C, 0, none⟩ (.int .u64 0)).setCell ⟨C, 1, none⟩ (.int .i64 x)).setCell ⟨C, 2, none⟩ (.pointer none)).drew).cell? ⟨C, 2, none⟩ = some (.pointer none) ∧ Below B w (((((w.alloc (.cells #[.int .u64 0, .int .i64 x, .pointer none] 79)).setCell ⟨C, 0, none⟩ (.int .u64 0)).setCell ⟨C, 1, none⟩ (.int .i64 x)).setCell ⟨C, 2, none⟩ (.pointer none)).drew) ∧ B ≤ (((((w.alloc (.cells #[.int .u64 0, .int .i64 x, .pointer none] 79)).setCell ⟨C, 0, none⟩ (.int .u64 0)).setCell ⟨C, 1, none⟩ (.int .i64 x)).setCell ⟨C, 2, none⟩ (.pointer none)).drew).heap.size := by
 have hCs : C < w.heap.size := World.block_lt_of_cell? w ⟨C, 0, none⟩ h0
 have hb : Below w.heap.size w (w.alloc (.cells #[.int .u64 0, .int .i64 x, .pointer none] 79)) := (Below.refl w.heap.size w).alloc (Nat.le_refl _) _
 obtain ⟨q0, q1, q2⟩ := set3 (a := .int .u64 0) (b := .int .i64 x) (c := .pointer none) (cell_after hb h0) (cell_after hb h1) (cell_after hb h2)
 have q3 := (set_other (v := .pointer none) (b := ⟨G, 0, none⟩) (a := ⟨C, 2, none⟩) (fun h => hCG (congrArg Addr.block h))).trans ((set_other (v := .int .i64 x) (a := ⟨C, 1, none⟩) (fun h => hCG (congrArg Addr.block h))).trans ((set_other (v := .int .u64 0) (a := ⟨C, 0, none⟩) (fun h => hCG (congrArg Addr.block h))).trans (cell_after hb hg)))
 have hBB : Below B w (((((w.alloc (.cells #[.int .u64 0, .int .i64 x, .pointer none] 79)).setCell ⟨C, 0, none⟩ (.int .u64 0)).setCell ⟨C, 1, none⟩ (.int .i64 x)).setCell ⟨C, 2, none⟩ (.pointer none)).drew) := ((((hb.mono (Nat.le_trans hB (Nat.le_of_lt hCs))).setCell hB _).setCell hB _).setCell hB _).drew
 exact ⟨q3, q0, q1, q2, hBB, Nat.le_trans (Nat.le_trans hB (Nat.le_of_lt hCs)) hBB.size⟩
set_option maxRecDepth 100000 in
set_option maxHeartbeats 800000 in
theorem isDue_w (B G C R : Nat) (x : Int) (expr : ByteArray) (k : Nat) (segs : List ByteArray) (hS : gronx_Segments.f k expr = some (segs, none)) (b er : Bool) (hD : DueW G C x segs b er) (w : World) (v0 v1 v2 : Value)
  (hg : w.cell? ⟨G, 0, none⟩ = some (.iface 92 (.pointer (some ⟨C, 0, none⟩)))) (h0 : w.cell? ⟨C, 0, none⟩ = some v0) (h1 : w.cell? ⟨C, 1, none⟩ = some v1) (h2 : w.cell? ⟨C, 2, none⟩ = some v2) (f0 : w.frozen? ⟨C, 0, none⟩ = false) (f1 : w.frozen? ⟨C, 1, none⟩ = false) (f2 : w.frozen? ⟨C, 2, none⟩ = false)
  (r0 : w.cell? ⟨R, 0, none⟩ = some (.int .u64 0)) (r1 : w.cell? ⟨R, 1, none⟩ = some (.int .i64 x)) (r2 : w.cell? ⟨R, 2, none⟩ = some (.pointer none)) (hB : B ≤ C) (hCG : C ≠ G) (hCR : C ≠ R) :
  Calls Tryz.prog 32 #[.pointer (some ⟨G, 0, none⟩), .string expr, .slice (some ⟨R, 0, none⟩) 1 1] w fun e w' => ∃ ev, e = .returned (.tuple #[.bool b, ev]) ∧ ErrV er ev ∧ Below B w w' := by
 have hS := Aside0.mk hS
 have hD := Aside0.mk hD
 have hm1 := nil_setRef
 have hm2 := m_setRef
 go_enter Tryz.func32, Tryz.ntmps32
 go_wp2
 go_region_held (fun w' => w'.cell? ⟨G, 0, none⟩ = some (.iface 92 (.pointer (some ⟨C, 0, none⟩))) ∧ w'.cell? ⟨R, 0, none⟩ = some (.int .u64 0) ∧ w'.cell? ⟨R, 1, none⟩ = some (.int .i64 x) ∧ w'.cell? ⟨R, 2, none⟩ = some (.pointer none))
  (first | exact SD.set hCG hCR (SD.set hCG hCR (SD.set hCG hCR (SD.alloc _ (by assumption)))) | go_keep) (first | (go_at_call 113; refine (setRef_w C x w.drew v0 v1 v2 h0 h1 h2 f0 f1 f2).mono ?_; rintro e w1 ⟨rfl, rfl⟩))
 rename_i hHeld
 clear hHeld
 obtain ⟨hG, c0, c1, c2, HB, hz⟩ := set_alloc (x := x) hg h0 h1 h2 hCG hB
 have HB := Aside0.mk HB
 have hG := Aside0.mk hG
 have c0 := Aside0.mk c0
 have c1 := Aside0.mk c1
 have c2 := Aside0.mk c2
 have hz := Aside0.mk hz
 go_wp2_with (first | (go_at_call 39; refine (gronx_Segments.calls k expr segs none _ hS.out).mono ?_; rintro e w2 ⟨vs, rfl, hR, hb2⟩; obtain ⟨A, cc, rfl⟩ := Kd.R_slice hR; rw [errW_none]) | (go_at_call 42; go_loud (refine (hD.out _ A cc (cell_after hb2 hG.out) (cell_after hb2 c0.out) (cell_after hb2 c1.out) (cell_after hb2 c2.out) (Kd.R_reads' hR).2.2 (Kd.R_reads' hR).2.1).mono ?_; rintro e w3 ⟨ev, rfl, hev, hb3⟩)))
 go_ret2
 exact ⟨ev, rfl, hev, (HB.out.trans (hb2.mono hz.out)).trans (hb3.mono (Nat.le_trans hz.out hb2.size))⟩
end Go.Proofs.YtemgofomhjabpaaGreatDoor.Core
namespace Go.Proofs.YtemgofomhjabpaaGreatDoor.Core
open Go.RowKit Go.Proofs.YtemgofomhjabpaaGreatDoorW.PrintWords
def IsStar (s : ByteArray) : Prop := s = ⟨#[42]⟩ ∨ s = ⟨#[63]⟩
def DueR (x : Int) (segs : List ByteArray) : Nat → Bool → Prop
 | 0, r => r = true
 | q + 1, r => (∃ s, segs[q]? = some s ∧ IsStar s ∧ DueR x segs q r) ∨ (∃ s b, segs[q]? = some s ∧ s ≠ ⟨#[42]⟩ ∧ s ≠ ⟨#[63]⟩ ∧ SegA x s q b false ∧ (if b = true then DueR x segs q r else r = false))
theorem toList_ne {s t : ByteArray} (h : s ≠ t) : s.toList ≠ t.toList := fun e => h (by
 have : s.data.toList = t.data.toList := by rw [← Lib.toList_data, ← Lib.toList_data, e]
 cases s; cases t; simp at this; rw [this])
set_option maxRecDepth 100000 in
set_option maxHeartbeats 3000000 in
theorem segmentsDue_w (G C : Nat) (x : Int) (segs : List ByteArray) (k : Nat) (i5 i3 : Int) (h6 : 6 ≤ segs.length) (h7 : segs.length ≤ 7) (h5 : gronx_zzIndex.f k (segs[5]'(by omega)) ⟨#[42, 47]⟩ = some i5) (h3 : gronx_zzIndex.f k (segs[3]'(by omega)) ⟨#[42]⟩ = some i3)
  (hx : IsStar (segs[5]'(by omega)) ∨ i5 = 0 ∨ i3 = 0 ∨ segs[3]'(by omega) = ⟨#[63]⟩) (r : Bool) (hD : DueR x segs segs.length r) : DueW G C x segs r false := by
 intro w A cc hg hc0 hc1 hc2 hR hcc
 have hD := Aside0.mk hD
 have hR := Aside0.mk hR
 have h5 := Aside0.mk h5
 have h3 := Aside0.mk h3
 have hx := Aside0.mk hx
 have hm1 := nil_check
 have hm2 := m_check
 go_enter Tryz.func42, Tryz.ntmps42
 go_wp2
 go_loopg [6, 7] segs.length (fun kq v6 v7 w' => ∃ (j : Nat), v6 = .bool false ∧ v7 = .int .i64 (j : Int) ∧ Aside0 (DueR x segs (segs.length - j) r) ∧ Aside0 (kq + j = segs.length) ∧ Aside0 (Below w.heap.size w w'))
 case atStart => exact ⟨0, rfl, rfl, ⟨hD.out⟩, ⟨rfl⟩, ⟨by repeat (first | exact Below.refl _ _ | apply below_drew1 | apply pw_below_drewN)⟩⟩
 case round =>
  clear hD
  obtain ⟨j, rfl, rfl, HD, HK, HW⟩ := hrel
  by_cases hj : j < segs.length
  ·obtain ⟨q, hq⟩ : ∃ q, segs.length = j + 1 + q := ⟨segs.length - 1 - j, by omega⟩
   have hpos : (segs.length : Int) - 1 - (j : Int) = (q : Int) := by omega
   have qj : ((j : Int) < (segs.length : Int)) := by omega
   have ql : ((q : Int) < (segs.length : Int)) := by omega
   have p0 : 0 ≤ (q : Int) := by omega
   have hqn : q < segs.length := by omega
   have h3n : 3 < segs.length := by omega
   obtain ⟨ad, rfl, hx0⟩ := Kd.at_string hR.out (q : Int) p0 ql
   replace hx0 := cell_after HW.out hx0
   rw [rdOf_nat _ _ hqn, Int.toNat_natCast] at hx0
   have gG := cell_after HW.out hg
   have gc0 := Aside0.mk (cell_after HW.out hc0)
   have gc1 := Aside0.mk (cell_after HW.out hc1)
   have gc2 := Aside0.mk (cell_after HW.out hc2)
   have HD' := HD.out
   rw [show segs.length - j = q + 1 by omega] at HD'
   rcases HD' with ⟨s, hs, hst, hr⟩ | ⟨s, b, hs, n42, n63, hA, hif⟩
   ·rw [List.getElem?_eq_getElem hqn] at hs
    obtain rfl := Option.some.inj hs
    have hr := Aside0.mk (show DueR x segs (segs.length - (j + 1)) r by rw [show segs.length - (j + 1) = q by omega]; exact hr)
    clear hs
    replace hq := Aside0.mk hq
    rcases hst with hst | hst
    ·rw [hst] at hx0
     clear hst
     go_wp2
     go_roundg (gk - 1)
     case measure => have := HK.out; omega
     case rel => exact ⟨j + 1, rfl, by simp, hr, ⟨by have := HK.out; omega⟩, ⟨by repeat (first | exact HW.out | apply below_drew1 | apply pw_below_drewN)⟩⟩
    ·rw [hst] at hx0
     clear hst
     go_wp2
     go_roundg (gk - 1)
     case measure => have := HK.out; omega
     case rel => exact ⟨j + 1, rfl, by simp, hr, ⟨by have := HK.out; omega⟩, ⟨by repeat (first | exact HW.out | apply below_drew1 | apply pw_below_drewN)⟩⟩
   ·rw [List.getElem?_eq_getElem hqn] at hs
    obtain rfl := Option.some.inj hs
    clear hs
    have hA := Aside0.mk hA
    have hif := Aside0.mk hif
    replace hq := Aside0.mk hq
    have s1 : segs[q].toList ≠ ([42] : List UInt8) := by have := toList_ne n42; rwa [Lib.toList_data (⟨#[42]⟩ : ByteArray)] at this
    have s2 : (segs[q].toList == ([42] : List UInt8)) = false := beq_eq_false_iff_ne.mpr s1
    have s3 : (segs[q].toList == ([63] : List UInt8)) = false := beq_eq_false_iff_ne.mpr (by have := toList_ne n63; rwa [Lib.toList_data (⟨#[63]⟩ : ByteArray)] at this)
    by_cases e5 : q = 5
    ·have h5' : Aside0 (gronx_zzIndex.f k segs[q] ⟨#[42, 47]⟩ = some i5) := ⟨by subst e5; exact h5.out⟩
     have h3' := h3
     have hxx : i5 = 0 ∨ i3 = 0 ∨ segs[3] = ⟨#[63]⟩ := by
      rcases hx.out with hx | hx
      ·exfalso
       subst e5
       rcases hx with hx | hx
       ·exact n42 hx
       ·exact n63 hx
      ·exact hx
     obtain ⟨ad3, ea, hx3⟩ := Kd.at_string hR.out 3 (by omega) (show (3 : Int) < (segs.length : Int) by omega)
     obtain rfl := Option.some.inj ea
     clear ea
     replace hx3 := cell_after HW.out hx3
     rw [show rdOf ByteArray.empty segs 3 = segs[3] from rdOf_nat segs 3 h3n] at hx3
     rw [show (3 : Int).toNat = 3 from rfl] at hx3
     have hx3' : wr.cell? ⟨ad.block, ad.off + 3, none⟩ = some (.string segs[3]) := hx3
     have b3 : ((q : Int) = 3) = False := by simp; omega
     have b3' : ((q : Int) == 3) = false := by simp; omega
     have b5 : ((q : Int) == 5) = true := by simp; omega
     have b5' : ((q : Int) = 5) = True := by simp; omega
     clear e5 n42 n63
     generalize segs[q] = sq at hx0 hA h5' s1 s2 s3
     generalize segs[3] = t3 at hx3 hx3' h3' hxx
     by_cases z5 : i5 = 0
     ·subst z5
      clear hxx
      cases b with
      | true =>
       have hr := Aside0.mk (show DueR x segs (segs.length - (j + 1)) r by rw [show segs.length - (j + 1) = q by have := hq.out; omega]; simpa using hif.out)
       go_wp2_with (first | (go_at_call 50; refine (gronx_zzIndex.calls k _ _ _ _ h5'.out).mono ?_; rintro e wz ⟨rfl, ⟨nd, rfl⟩⟩; clear h5') | (go_at_call 50; refine (gronx_zzIndex.calls k _ _ _ _ h3'.out).mono ?_; rintro e wz ⟨rfl, ⟨nd2, rfl⟩⟩) | (go_at_call 111; refine (hA.out C _ (cell_after (by repeat (first | exact Below.refl _ _ | apply below_drew1 | apply pw_below_drewN)) gc0.out) (cell_after (by repeat (first | exact Below.refl _ _ | apply below_drew1 | apply pw_below_drewN)) gc1.out) (cell_after (by repeat (first | exact Below.refl _ _ | apply below_drew1 | apply pw_below_drewN)) gc2.out)).mono ?_; rintro e w5 ⟨ev, rfl, hev, hb5⟩; obtain rfl := ErrV.nil hev))
       go_roundg (gk - 1)
       case measure => have := HK.out; omega
       case rel => exact ⟨j + 1, rfl, by simp, hr, ⟨by have := HK.out; omega⟩, ⟨by repeat (first | exact below_step (by repeat (first | exact HW.out | apply below_drew1 | apply pw_below_drewN)) hb5 | apply below_drew1 | apply pw_below_drewN)⟩⟩
      | false =>
       obtain rfl : r = false := by simpa using hif.out
       go_wp2_with (first | (go_at_call 50; refine (gronx_zzIndex.calls k _ _ _ _ h5'.out).mono ?_; rintro e wz ⟨rfl, ⟨nd, rfl⟩⟩; clear h5') | (go_at_call 50; refine (gronx_zzIndex.calls k _ _ _ _ h3'.out).mono ?_; rintro e wz ⟨rfl, ⟨nd2, rfl⟩⟩) | (go_at_call 111; refine (hA.out C _ (cell_after (by repeat (first | exact Below.refl _ _ | apply below_drew1 | apply pw_below_drewN)) gc0.out) (cell_after (by repeat (first | exact Below.refl _ _ | apply below_drew1 | apply pw_below_drewN)) gc1.out) (cell_after (by repeat (first | exact Below.refl _ _ | apply below_drew1 | apply pw_below_drewN)) gc2.out)).mono ?_; rintro e w5 ⟨ev, rfl, hev, hb5⟩; obtain rfl := ErrV.nil hev))
       go_ret2
       exact ⟨_, rfl, .inl ⟨rfl, rfl⟩, below_step (by repeat (first | exact HW.out | apply below_drew1 | apply pw_below_drewN)) hb5⟩
     ·have z5' : (i5 == 0) = false := beq_eq_false_iff_ne.mpr z5
      by_cases z3 : i3 = 0
      ·subst z3
       clear hxx
       cases b with
       | true =>
        have hr := Aside0.mk (show DueR x segs (segs.length - (j + 1)) r by rw [show segs.length - (j + 1) = q by have := hq.out; omega]; simpa using hif.out)
        go_wp2_with (first | (go_at_call 50; refine (gronx_zzIndex.calls k _ _ _ _ h5'.out).mono ?_; rintro e wz ⟨rfl, ⟨nd, rfl⟩⟩; clear h5') | (go_at_call 50; refine (gronx_zzIndex.calls k _ _ _ _ h3'.out).mono ?_; rintro e wz ⟨rfl, ⟨nd2, rfl⟩⟩) | (go_at_call 111; refine (hA.out C _ (cell_after (by repeat (first | exact Below.refl _ _ | apply below_drew1 | apply pw_below_drewN)) gc0.out) (cell_after (by repeat (first | exact Below.refl _ _ | apply below_drew1 | apply pw_below_drewN)) gc1.out) (cell_after (by repeat (first | exact Below.refl _ _ | apply below_drew1 | apply pw_below_drewN)) gc2.out)).mono ?_; rintro e w5 ⟨ev, rfl, hev, hb5⟩; obtain rfl := ErrV.nil hev))
        go_roundg (gk - 1)
        case measure => have := HK.out; omega
        case rel => exact ⟨j + 1, rfl, by simp, hr, ⟨by have := HK.out; omega⟩, ⟨by repeat (first | exact below_step (by repeat (first | exact HW.out | apply below_drew1 | apply pw_below_drewN)) hb5 | apply below_drew1 | apply pw_below_drewN)⟩⟩
       | false =>
        obtain rfl : r = false := by simpa using hif.out
        go_wp2_with (first | (go_at_call 50; refine (gronx_zzIndex.calls k _ _ _ _ h5'.out).mono ?_; rintro e wz ⟨rfl, ⟨nd, rfl⟩⟩; clear h5') | (go_at_call 50; refine (gronx_zzIndex.calls k _ _ _ _ h3'.out).mono ?_; rintro e wz ⟨rfl, ⟨nd2, rfl⟩⟩) | (go_at_call 111; refine (hA.out C _ (cell_after (by repeat (first | exact Below.refl _ _ | apply below_drew1 | apply pw_below_drewN)) gc0.out) (cell_after (by repeat (first | exact Below.refl _ _ | apply below_drew1 | apply pw_below_drewN)) gc1.out) (cell_after (by repeat (first | exact Below.refl _ _ | apply below_drew1 | apply pw_below_drewN)) gc2.out)).mono ?_; rintro e w5 ⟨ev, rfl, hev, hb5⟩; obtain rfl := ErrV.nil hev))
        go_ret2
        exact ⟨_, rfl, .inl ⟨rfl, rfl⟩, below_step (by repeat (first | exact HW.out | apply below_drew1 | apply pw_below_drewN)) hb5⟩
      ·have z3' : (i3 == 0) = false := beq_eq_false_iff_ne.mpr z3
       have hs3 : t3 = ⟨#[63]⟩ := by rcases hxx with h | h | h; exact absurd h z5; exact absurd h z3; exact h
       rw [hs3] at hx3 hx3' h3'
       clear hxx
       cases b with
       | true =>
        have hr := Aside0.mk (show DueR x segs (segs.length - (j + 1)) r by rw [show segs.length - (j + 1) = q by have := hq.out; omega]; simpa using hif.out)
        go_wp2_with (first | (go_at_call 50; refine (gronx_zzIndex.calls k _ _ _ _ h5'.out).mono ?_; rintro e wz ⟨rfl, ⟨nd, rfl⟩⟩; clear h5') | (go_at_call 50; refine (gronx_zzIndex.calls k _ _ _ _ h3'.out).mono ?_; rintro e wz ⟨rfl, ⟨nd2, rfl⟩⟩) | (go_at_call 111; refine (hA.out C _ (cell_after (by repeat (first | exact Below.refl _ _ | apply below_drew1 | apply pw_below_drewN)) gc0.out) (cell_after (by repeat (first | exact Below.refl _ _ | apply below_drew1 | apply pw_below_drewN)) gc1.out) (cell_after (by repeat (first | exact Below.refl _ _ | apply below_drew1 | apply pw_below_drewN)) gc2.out)).mono ?_; rintro e w5 ⟨ev, rfl, hev, hb5⟩; obtain rfl := ErrV.nil hev))
        go_roundg (gk - 1)
        case measure => have := HK.out; omega
        case rel => exact ⟨j + 1, rfl, by simp, hr, ⟨by have := HK.out; omega⟩, ⟨by repeat (first | exact below_step (by repeat (first | exact HW.out | apply below_drew1 | apply pw_below_drewN)) hb5 | apply below_drew1 | apply pw_below_drewN)⟩⟩
       | false =>
        obtain rfl : r = false := by simpa using hif.out
        go_wp2_with (first | (go_at_call 50; refine (gronx_zzIndex.calls k _ _ _ _ h5'.out).mono ?_; rintro e wz ⟨rfl, ⟨nd, rfl⟩⟩; clear h5') | (go_at_call 50; refine (gronx_zzIndex.calls k _ _ _ _ h3'.out).mono ?_; rintro e wz ⟨rfl, ⟨nd2, rfl⟩⟩) | (go_at_call 111; refine (hA.out C _ (cell_after (by repeat (first | exact Below.refl _ _ | apply below_drew1 | apply pw_below_drewN)) gc0.out) (cell_after (by repeat (first | exact Below.refl _ _ | apply below_drew1 | apply pw_below_drewN)) gc1.out) (cell_after (by repeat (first | exact Below.refl _ _ | apply below_drew1 | apply pw_below_drewN)) gc2.out)).mono ?_; rintro e w5 ⟨ev, rfl, hev, hb5⟩; obtain rfl := ErrV.nil hev))
        go_ret2
        exact ⟨_, rfl, .inl ⟨rfl, rfl⟩, below_step (by repeat (first | exact HW.out | apply below_drew1 | apply pw_below_drewN)) hb5⟩
    ·have b5 : ((q : Int) == 5) = false := by simp; omega
     have b5' : ((q : Int) = 5) = False := by simp; omega
     clear e5 n42 n63
     generalize segs[q] = sq at hx0 hA s1 s2 s3
     by_cases e3 : q = 3
     ·have b3 : ((q : Int) = 3) = True := by simp; omega
      have b3' : ((q : Int) == 3) = true := by simp; omega
      clear e3
      cases b with
      | true =>
       have hr := Aside0.mk (show DueR x segs (segs.length - (j + 1)) r by rw [show segs.length - (j + 1) = q by have := hq.out; omega]; simpa using hif.out)
       go_wp2_with (go_at_call 111; refine (hA.out C _ (cell_after (by repeat (first | exact Below.refl _ _ | apply below_drew1 | apply pw_below_drewN)) gc0.out) (cell_after (by repeat (first | exact Below.refl _ _ | apply below_drew1 | apply pw_below_drewN)) gc1.out) (cell_after (by repeat (first | exact Below.refl _ _ | apply below_drew1 | apply pw_below_drewN)) gc2.out)).mono ?_; rintro e w5 ⟨ev, rfl, hev, hb5⟩; obtain rfl := ErrV.nil hev)
       go_roundg (gk - 1)
       case measure => have := HK.out; omega
       case rel => exact ⟨j + 1, rfl, by simp, hr, ⟨by have := HK.out; omega⟩, ⟨by repeat (first | exact below_step (by repeat (first | exact HW.out | apply below_drew1 | apply pw_below_drewN)) hb5 | apply below_drew1 | apply pw_below_drewN)⟩⟩
      | false =>
       obtain rfl : r = false := by simpa using hif.out
       go_wp2_with (go_at_call 111; refine (hA.out C _ (cell_after (by repeat (first | exact Below.refl _ _ | apply below_drew1 | apply pw_below_drewN)) gc0.out) (cell_after (by repeat (first | exact Below.refl _ _ | apply below_drew1 | apply pw_below_drewN)) gc1.out) (cell_after (by repeat (first | exact Below.refl _ _ | apply below_drew1 | apply pw_below_drewN)) gc2.out)).mono ?_; rintro e w5 ⟨ev, rfl, hev, hb5⟩; obtain rfl := ErrV.nil hev)
       go_ret2
       exact ⟨_, rfl, .inl ⟨rfl, rfl⟩, below_step (by repeat (first | exact HW.out | apply below_drew1 | apply pw_below_drewN)) hb5⟩
     ·have b3 : ((q : Int) = 3) = False := by simp; omega
      have b3' : ((q : Int) == 3) = false := by simp; omega
      clear e3
      cases b with
      | true =>
       have hr := Aside0.mk (show DueR x segs (segs.length - (j + 1)) r by rw [show segs.length - (j + 1) = q by have := hq.out; omega]; simpa using hif.out)
       go_wp2_with (go_at_call 111; refine (hA.out C _ (cell_after (by repeat (first | exact Below.refl _ _ | apply below_drew1 | apply pw_below_drewN)) gc0.out) (cell_after (by repeat (first | exact Below.refl _ _ | apply below_drew1 | apply pw_below_drewN)) gc1.out) (cell_after (by repeat (first | exact Below.refl _ _ | apply below_drew1 | apply pw_below_drewN)) gc2.out)).mono ?_; rintro e w5 ⟨ev, rfl, hev, hb5⟩; obtain rfl := ErrV.nil hev)
       go_roundg (gk - 1)
       case measure => have := HK.out; omega
       case rel => exact ⟨j + 1, rfl, by simp, hr, ⟨by have := HK.out; omega⟩, ⟨by repeat (first | exact below_step (by repeat (first | exact HW.out | apply below_drew1 | apply pw_below_drewN)) hb5 | apply below_drew1 | apply pw_below_drewN)⟩⟩
      | false =>
       obtain rfl : r = false := by simpa using hif.out
       go_wp2_with (go_at_call 111; refine (hA.out C _ (cell_after (by repeat (first | exact Below.refl _ _ | apply below_drew1 | apply pw_below_drewN)) gc0.out) (cell_after (by repeat (first | exact Below.refl _ _ | apply below_drew1 | apply pw_below_drewN)) gc1.out) (cell_after (by repeat (first | exact Below.refl _ _ | apply below_drew1 | apply pw_below_drewN)) gc2.out)).mono ?_; rintro e w5 ⟨ev, rfl, hev, hb5⟩; obtain rfl := ErrV.nil hev)
       go_ret2
       exact ⟨_, rfl, .inl ⟨rfl, rfl⟩, below_step (by repeat (first | exact HW.out | apply below_drew1 | apply pw_below_drewN)) hb5⟩
  ·have qj0 : decide ((j : Int) < (segs.length : Int)) = false := decide_eq_false (by omega)
   have HD' := HD.out
   rw [show segs.length - j = 0 by omega] at HD'
   obtain rfl : r = true := HD'
   go_wp2
   go_ret2
   exact ⟨_, rfl, .inl ⟨rfl, rfl⟩, HW.out⟩
end Go.Proofs.YtemgofomhjabpaaGreatDoor.Core
namespace Go.Proofs.YtemgofomhjabpaaGreatDoor.Core
open Go.RowKit Go.Proofs.YtemgofomhjabpaaGreatDoorW.PrintWords
theorem new_c (w : World) : Calls Tryz.prog 31 #[] w fun e w' => ∃ G C v0 v1 v2, e = .returned (.pointer (some ⟨G, 0, none⟩)) ∧ w'.cell? ⟨G, 0, none⟩ = some (.iface 92 (.pointer (some ⟨C, 0, none⟩))) ∧ w'.cell? ⟨C, 0, none⟩ = some v0 ∧ w'.cell? ⟨C, 1, none⟩ = some v1 ∧ w'.cell? ⟨C, 2, none⟩ = some v2 ∧
  w'.frozen? ⟨C, 0, none⟩ = false ∧ w'.frozen? ⟨C, 1, none⟩ = false ∧ w'.frozen? ⟨C, 2, none⟩ = false ∧ w.heap.size ≤ C ∧ C < G ∧ Below w.heap.size w w' := by
 refine (new_w w).mono ?_
 rintro e w' ⟨rfl, rfl⟩
 exact ⟨w.heap.size + 1, w.heap.size, _, _, _, rfl, by simp [go_sem], by simp [go_sem]; rfl, by simp [go_sem]; rfl, by simp [go_sem]; rfl, by simp [go_sem], by simp [go_sem], by simp [go_sem], Nat.le_refl _, Nat.lt_succ_self _, below_alloc (below_alloc (Below.refl _ _) _) _⟩
def SM (n : Nat) (y mo d h mi s : Int) (w' : World) : Prop := n < w'.heap.size ∧ w'.cell? ⟨n, 0, none⟩ = some (.int .i64 y) ∧ w'.cell? ⟨n, 1, none⟩ = some (.int .i64 mo) ∧ w'.cell? ⟨n, 2, none⟩ = some (.int .i64 d) ∧ w'.cell? ⟨n, 3, none⟩ = some (.int .i64 h) ∧ w'.cell? ⟨n, 4, none⟩ = some (.int .i64 mi) ∧ w'.cell? ⟨n, 5, none⟩ = some (.int .i64 s)
theorem SM.below {n B : Nat} {y mo d h mi s : Int} {a b : World} (hb : Below B a b) (hn : n < B) (hS : SM n y mo d h mi s a) : SM n y mo d h mi s b := by
 have hk := fun j v (e : a.cell? ⟨n, j, none⟩ = some v) => (show b.cell? ⟨n, j, none⟩ = some v by rw [← e]; simp only [World.cell?, hb.block n hn])
 obtain ⟨h0, h1, h2, h3, h4, h5, h6⟩ := hS
 exact ⟨Nat.lt_of_lt_of_le h0 hb.size, hk _ _ h1, hk _ _ h2, hk _ _ h3, hk _ _ h4, hk _ _ h5, hk _ _ h6⟩
theorem SM.step {n : Nat} {y mo d h mi s : Int} {a b : World} (hb : Below a.heap.size a b) (hS : SM n y mo d h mi s a) : SM n y mo d h mi s b := SM.below hb hS.1 hS
theorem SM.lt {n : Nat} {y mo d h mi s : Int} {a : World} (hS : SM n y mo d h mi s a) : n < a.heap.size := hS.1
theorem frz_after {a b : World} {p : Addr} (hb : Below a.heap.size a b) (hl : p.block < a.heap.size) (h : a.frozen? p = false) : b.frozen? p = false := (hb.frozen hl).trans h
theorem al3 {w : World} {a b c : Value} {t : TypeId} : (w.alloc (.cells #[a, b, c] t)).cell? ⟨w.heap.size, 0, none⟩ = some a ∧ (w.alloc (.cells #[a, b, c] t)).cell? ⟨w.heap.size, 1, none⟩ = some b ∧ (w.alloc (.cells #[a, b, c] t)).cell? ⟨w.heap.size, 2, none⟩ = some c := by
 refine ⟨?_, ?_, ?_⟩ <;> simp [go_sem]
set_option maxRecDepth 100000 in
set_option maxHeartbeats 2000000 in
theorem due_w {y mo d h mi s : Int} (hd : DateOk y mo d) (hc : ClockOk h mi s) (expr : ByteArray) (k : Nat) (segs : List ByteArray) (hS : gronx_Segments.f k expr = some (segs, none)) (r : Bool) (hD : ∀ G C, DueW G C (extOf y mo d h mi s) segs r false) : DueC expr y mo d h mi s r true := by
 intro w
 have hd := Aside0.mk hd
 have hc := Aside0.mk hc
 have hD := Aside0.mk hD
 have hS := Aside0.mk hS
 go_enter Tryz.func14, Tryz.ntmps14
 go_wp2
 go_region_held (fun w' => w.heap.size < w'.heap.size ∧ w'.cell? ⟨w.heap.size, 0, none⟩ = some (.int .i64 y) ∧ w'.cell? ⟨w.heap.size, 1, none⟩ = some (.int .i64 mo) ∧ w'.cell? ⟨w.heap.size, 2, none⟩ = some (.int .i64 d) ∧ w'.cell? ⟨w.heap.size, 3, none⟩ = some (.int .i64 h) ∧ w'.cell? ⟨w.heap.size, 4, none⟩ = some (.int .i64 mi) ∧ w'.cell? ⟨w.heap.size, 5, none⟩ = some (.int .i64 s))
  (first | exact SM.step ((Below.refl _ _).alloc (Nat.le_refl _) _) (by assumption) | exact SM.step hbn (by assumption) | exact SM.step hbt (by assumption) | exact SM.below hb3 hlt (by assumption) | go_keep | (trace_state; fail)) (first | (go_at_call 31; refine (new_c _).mono ?_; rintro e wn ⟨G, C, v0, v1, v2, rfl, hg, hc0, hc1, hc2, hf0, hf1, hf2, hC, hCG, hbn⟩; have hlt : w.heap.size < C := Nat.lt_of_lt_of_le (SM.lt (y := y) (mo := mo) (d := d) (h := h) (mi := mi) (s := s) (by assumption)) hC) | (go_at_call 33; refine (timeOf_w hd.out hc.out _).mono ?_; rintro e wt ⟨rfl, hbt⟩) | (go_at_call 32; refine (isDue_w C G C _ (extOf y mo d h mi s) expr k segs hS.out r false (hD.out G C) _ v0 v1 v2 (by first | exact hg | exact cell_after ((Below.refl _ _).alloc (Nat.le_refl _) _) hg | exact cell_after hbt hg | exact cell_after ((Below.refl _ _).alloc (Nat.le_refl _) _) (cell_after hbt hg)) (by first | exact hc0 | exact cell_after ((Below.refl _ _).alloc (Nat.le_refl _) _) hc0 | exact cell_after hbt hc0 | exact cell_after ((Below.refl _ _).alloc (Nat.le_refl _) _) (cell_after hbt hc0)) (by first | exact hc1 | exact cell_after ((Below.refl _ _).alloc (Nat.le_refl _) _) hc1 | exact cell_after hbt hc1 | exact cell_after ((Below.refl _ _).alloc (Nat.le_refl _) _) (cell_after hbt hc1)) (by first | exact hc2 | exact cell_after ((Below.refl _ _).alloc (Nat.le_refl _) _) hc2 | exact cell_after hbt hc2 | exact cell_after ((Below.refl _ _).alloc (Nat.le_refl _) _) (cell_after hbt hc2)) (by first | exact hf0 | exact frz_after ((Below.refl _ _).alloc (Nat.le_refl _) _) (World.block_lt_of_cell? wn ⟨C, 0, none⟩ hc0) hf0 | exact frz_after hbt (World.block_lt_of_cell? wn ⟨C, 0, none⟩ hc0) hf0 | exact frz_after ((Below.refl _ _).alloc (Nat.le_refl _) _) (Nat.lt_of_lt_of_le (World.block_lt_of_cell? wn ⟨C, 0, none⟩ hc0) hbt.size) (frz_after hbt (World.block_lt_of_cell? wn ⟨C, 0, none⟩ hc0) hf0)) (by first | exact hf1 | exact frz_after ((Below.refl _ _).alloc (Nat.le_refl _) _) (World.block_lt_of_cell? wn ⟨C, 0, none⟩ hc0) hf1 | exact frz_after hbt (World.block_lt_of_cell? wn ⟨C, 0, none⟩ hc0) hf1 | exact frz_after ((Below.refl _ _).alloc (Nat.le_refl _) _) (Nat.lt_of_lt_of_le (World.block_lt_of_cell? wn ⟨C, 0, none⟩ hc0) hbt.size) (frz_after hbt (World.block_lt_of_cell? wn ⟨C, 0, none⟩ hc0) hf1)) (by first | exact hf2 | exact frz_after ((Below.refl _ _).alloc (Nat.le_refl _) _) (World.block_lt_of_cell? wn ⟨C, 0, none⟩ hc0) hf2 | exact frz_after hbt (World.block_lt_of_cell? wn ⟨C, 0, none⟩ hc0) hf2 | exact frz_after ((Below.refl _ _).alloc (Nat.le_refl _) _) (Nat.lt_of_lt_of_le (World.block_lt_of_cell? wn ⟨C, 0, none⟩ hc0) hbt.size) (frz_after hbt (World.block_lt_of_cell? wn ⟨C, 0, none⟩ hc0) hf2)) (by first | exact al3.1 | exact cell_after hbn al3.1) (by first | exact al3.2.1 | exact cell_after hbn al3.2.1) (by first | exact al3.2.2 | exact cell_after hbn al3.2.2) (Nat.le_refl _) (Nat.ne_of_lt hCG) (by have h1 : C < wn.heap.size := World.block_lt_of_cell? wn ⟨C, 0, none⟩ hc0; have h2 := hbt.size; have h3 := hbn.size; have h4 := hC; (try simp at h4); (try simp at h3); (try simp at h2); omega)).mono ?_; rintro e w3 ⟨ev, rfl, hev, hb3⟩; obtain rfl := ErrV.nil hev))
 rename_i hHeld
 clear hHeld
 go_wp2
 go_region_held (fun _ => True) (trivial) (fail)
 rename_i hHeld2
 clear hHeld2
 go_wp2
 go_ret2
 have b1 : Below w.heap.size w wn := below_step (by repeat (first | exact Below.refl _ _ | apply below_alloc | apply below_drew1)) hbn
 exact ⟨rfl, ((below_alloc (below_step b1 hbt) _).trans (hb3.mono (Nat.le_of_lt hlt))).drew⟩
end Go.Proofs.YtemgofomhjabpaaGreatDoor.Core
namespace Go.Proofs.YtemgofomhjabpaaGreatDoor.Core
open Go.RowKit Go.Proofs.YtemgofomhjabpaaGreatDoorW.PrintWords
theorem dueL_items (c : Nat) (i : Nat) (hi : i < 6) (l : List It) (hg : ∀ x ∈ l, goodItem i x = true) (n : Int) (n0 : lowI i ≤ n) (n1 : n ≤ highI i) : DueL c n i (l.map fun x => B (itemL x)) (hasF i l n) false := by
 induction l with
 | nil => exact ⟨rfl, rfl⟩
 | cons x t ih =>
  refine ⟨hasIt i x n, false, offC_item c i hi x (hg x (by simp)) n n0 n1, ?_⟩
  have hcons : hasF i (x :: t) n = (hasIt i x n || hasF i t n) := rfl
  rw [hcons]
  cases hb : hasIt i x n with
  | true => rw [if_pos (Or.inl rfl)]; exact ⟨rfl, rfl⟩
  | false => rw [if_neg (by simp), Bool.false_or]; exact ih (fun y hy => hg y (by simp [hy]))
theorem ev_all {α β : Type} (l : List α) (F : α → Nat → Option β) (r : α → β) (h : ∀ a ∈ l, Ev (F a) (r a)) : ∃ K, ∀ k, K ≤ k → ∀ a ∈ l, F a k = some (r a) := by
 induction l with
 | nil => exact ⟨0, fun _ _ _ ha => by cases ha⟩
 | cons x t ih =>
  obtain ⟨K, hK⟩ := ih (fun a ha => h a (by simp [ha]))
  obtain ⟨L, hL⟩ := h x (by simp)
  refine ⟨max K L, fun k hk a ha => ?_⟩
  rcases List.mem_cons.1 ha with rfl | ha
  ·exact hL k (by omega)
  ·exact hK k (by omega) a ha
theorem itemL_chars (x : It) : ∀ b ∈ itemL x, b = 42 ∨ b = 45 ∨ b = 47 ∨ (48 ≤ b.toNat ∧ b.toNat ≤ 57) := by
 have hs : ∀ b ∈ stepL x.f3, b = 42 ∨ b = 45 ∨ b = 47 ∨ (48 ≤ b.toNat ∧ b.toNat ≤ 57) := by
  intro b hb
  unfold stepL at hb
  split at hb
  ·rcases List.mem_cons.1 hb with h | h
   ·exact .inr (.inr (.inl h))
   ·exact .inr (.inr (.inr (decN_digit _ b h)))
  ·cases hb
 intro b hb
 unfold itemL at hb
 split at hb
 ·rcases List.mem_cons.1 hb with h | h
  ·exact .inl h
  ·exact hs b h
 ·rcases List.mem_append.1 hb with h | h
  ·exact .inr (.inr (.inr (decN_digit _ b h)))
  ·rcases List.mem_append.1 h with h | h
   ·split at h
    ·rcases List.mem_cons.1 h with h | h
     ·exact .inr (.inl h)
     ·exact .inr (.inr (.inr (decN_digit _ b h)))
    ·cases h
   ·exact hs b h
theorem itemL_not (x : It) (c : UInt8) (h1 : c ≠ 42) (h2 : c ≠ 45) (h3 : c ≠ 47) (h4 : c.toNat < 48 ∨ 57 < c.toNat) : c ∉ itemL x := fun e => by
 rcases itemL_chars x c e with h | h | h | h
 ·exact h1 h
 ·exact h2 h
 ·exact h3 h
 ·omega
theorem segA_parts {x y mo d h mi s : Int} (M : Moment' x y mo d h mi s) (pos : Nat) (hp : pos < 7) (P : List (List UInt8)) (hne : P ≠ []) (h44 : ∀ p ∈ P, 44 ∉ p) (hl : (joinL 44 P).length < 1000000) (hn : P.length < 1000000) (hm : ∀ p ∈ P, p.length < 1000000 ∧ ∀ b ∈ p, b ≠ 76 ∧ b ≠ 87 ∧ b ≠ 35)
  (b er : Bool) (hD : ∀ c, DueL c (posV y mo d h mi s pos) pos (P.map B) b er) : SegA x (B (joinL 44 P)) pos b er := by
 have hs := zzSplit_ev 44 (joinL 44 P) (by omega)
 rw [splitL_join 44 P hne h44] at hs
 obtain ⟨K1, hK1⟩ := hs
 obtain ⟨K2, hK2⟩ := ev_all P (fun p k => gronx_zzContainsAny.f k (B p) (B [76, 87, 35])) (fun _ => false) (fun p hp => by
  have := any_ev p [76, 87, 35] (by have := (hm p hp).1; omega) (by simp)
  rw [show (p.any fun b => ([76, 87, 35] : List UInt8).contains b) = false by
   rw [List.any_eq_false]
   intro b hb
   have := (hm p hp).2 b hb
   simp [this.1, this.2.1, this.2.2]] at this
  exact this)
 refine segA_of M _ pos hp (max K1 K2) (P.map B) (hK1 _ (by omega)) (by rw [List.length_map]; exact hn) (fun _ o ho => ?_) b er hD
 obtain ⟨p, hp, rfl⟩ := List.mem_map.1 ho
 exact hK2 _ (by omega) p hp
theorem posV_range {y mo d h mi s : Int} (hd : DateOk y mo d) (hc : ClockOk h mi s) (i : Nat) (hi : i < 6) : lowI i ≤ posV y mo d h mi s i ∧ posV y mo d h mi s i ≤ highI i := by
 have h31 := (daysI_cases y mo hd.m0 hd.m1).1
 have := hd.d1
 have hw0 : 0 ≤ wdI y mo d := Int.emod_nonneg _ (by decide)
 have hw1 : wdI y mo d < 7 := Int.emod_lt_of_pos _ (by decide)
 match i, hi with
 | 0, _ => exact ⟨hc.s0, hc.s1⟩
 | 1, _ => exact ⟨hc.m0, hc.m1⟩
 | 2, _ => exact ⟨hc.h0, hc.h1⟩
 | 3, _ => exact ⟨hd.d0, by show d ≤ 31; omega⟩
 | 4, _ => exact ⟨hd.m0, hd.m1⟩
 | 5, _ => exact ⟨hw0, by show wdI y mo d ≤ 6; omega⟩
theorem items_small {i : Nat} {l : List It} (hg : goodF i l = true) : (∀ p ∈ l.map itemL, p.length < 1000000 ∧ ∀ b ∈ p, b ≠ 76 ∧ b ≠ 87 ∧ b ≠ 35) ∧ (∀ p ∈ l.map itemL, 44 ∉ p) ∧ l.map itemL ≠ [] ∧ (l.map itemL).length < 1000000 := by
 obtain ⟨h1, h2, h3⟩ := goodF_spec hg
 refine ⟨fun p hp => ?_, fun p hp => ?_, ?_, by rw [List.length_map]; omega⟩
 ·obtain ⟨x, hx, rfl⟩ := List.mem_map.1 hp
  have := itemL_length (h1 x hx)
  refine ⟨by omega, fun b hb => ⟨fun e => ?_, fun e => ?_, fun e => ?_⟩⟩ <;> subst e
  ·exact itemL_not x _ (by decide) (by decide) (by decide) (by decide) hb
  ·exact itemL_not x _ (by decide) (by decide) (by decide) (by decide) hb
  ·exact itemL_not x _ (by decide) (by decide) (by decide) (by decide) hb
 ·obtain ⟨x, hx, rfl⟩ := List.mem_map.1 hp
  exact itemL_not x 44 (by decide) (by decide) (by decide) (by decide)
 ·intro e
  have := congrArg List.length e
  simp at this
  subst this
  simp at h2
theorem segA_field {x y mo d h mi s : Int} (M : Moment' x y mo d h mi s) (i : Nat) (hi : i < 6) (l : List It) (hg : goodF i l = true) : SegA x (B (fieldL l)) i (hasF i l (posV y mo d h mi s i)) false := by
 obtain ⟨q1, q2, q3, q4⟩ := items_small hg
 have hl := fieldL_length hg
 obtain ⟨v0, v1⟩ := posV_range M.date M.clock i hi
 refine segA_parts M i (by omega) (l.map itemL) q3 q2 (by show (fieldL l).length < _; omega) q4 q1 _ false (fun c => ?_)
 rw [List.map_map]
 exact dueL_items c i hi l (goodF_spec hg).1 _ v0 v1
theorem dueR_all (x : Int) (segs : List ByteArray) (bs : Nat → Bool) (h : ∀ (q : Nat) (hq : q < segs.length), (IsStar segs[q] ∧ bs q = true) ∨ (segs[q] ≠ ⟨#[42]⟩ ∧ segs[q] ≠ ⟨#[63]⟩ ∧ SegA x segs[q] q (bs q) false)) :
  ∀ q, q ≤ segs.length → DueR x segs q ((List.range q).all bs) := by
 intro q
 induction q with
 | zero => intro _; exact rfl
 | succ q ih =>
  intro hq
  have hrec := ih (by omega)
  have hall : (List.range (q + 1)).all bs = ((List.range q).all bs && bs q) := by rw [List.range_succ, List.all_append]; simp
  rw [hall]
  rcases h q (by omega) with ⟨hs, hb⟩ | ⟨h1, h2, hA⟩
  ·refine .inl ⟨segs[q], List.getElem?_eq_getElem _, hs, ?_⟩
   rw [hb, Bool.and_true]
   exact hrec
  ·refine .inr ⟨segs[q], bs q, List.getElem?_eq_getElem _, h1, h2, hA, ?_⟩
   cases hb : bs q with
   | true => rw [if_pos rfl, Bool.and_true]; exact hrec
   | false => rw [if_neg (by simp), Bool.and_false]
end Go.Proofs.YtemgofomhjabpaaGreatDoor.Core
namespace Go.Proofs.YtemgofomhjabpaaGreatDoor.Core
open Go.RowKit Go.Proofs.YtemgofomhjabpaaGreatDoorW.PrintWords
theorem cumI_one (y : Int) : cumI y 1 = 0 := by unfold cumI; rw [if_neg (by omega)]; rfl
theorem cumI_step (y : Int) (j : Int) (h0 : 1 ≤ j) (h1 : j ≤ 11) : cumI y (j + 1) = cumI y j + daysI y j := by
 unfold cumI daysI
 rcases (show j = 1 ∨ j = 2 ∨ j = 3 ∨ j = 4 ∨ j = 5 ∨ j = 6 ∨ j = 7 ∨ j = 8 ∨ j = 9 ∨ j = 10 ∨ j = 11 by omega) with h | h | h | h | h | h | h | h | h | h | h <;> subst h <;> (cases leapI y <;> simp [rd])
theorem weekday_from (y mo : Int) (y0 : 0 ≤ y) (m1 : mo ≤ 12) (base : Int) (b0 : 0 ≤ base) (b1 : base ≤ 1000000) :
  ∀ (d : Nat) (j : Int), (mo - j).toNat = d → 1 ≤ j → j ≤ mo → Ev (fun k => spec_Weekday.l0 k y mo (base + cumI y j) j) ((base + cumI y mo) % 7) := by
 intro d
 induction d with
 | zero =>
  intro j hd h1 h2
  obtain rfl : j = mo := by omega
  have hc := cumI_range y j h1 m1
  refine Ev.done fun k => ?_
  simp only [spec_Weekday.l0]
  rw [if_neg (by omega), Int.tmod_eq_emod_of_nonneg (by omega)]
 | succ d ih =>
  intro j hd h1 h2
  have hlt : j < mo := by omega
  have hc := cumI_range y j h1 (by omega)
  have hc2 := cumI_range y (j + 1) (by omega) (by omega)
  have hst := cumI_step y j h1 (by omega)
  have hrec := ih (j + 1) (by omega) (by omega) (by omega)
  refine Ev.step (fun k => ?_) hrec
  simp only [spec_Weekday.l0, days_some y j y0 h1 (by omega), Option.bind_some]
  rw [if_pos hlt, wrap64_id (by omega) (by omega), wrap64_id (by omega) (by omega), show base + cumI y j + daysI y j = base + cumI y (j + 1) by omega]
theorem weekday_ev {y mo d : Int} (h : DateOk y mo d) : Ev (fun k => spec_Weekday.f k y mo d) (wdI y mo d) := by
 have y0 := h.y0
 have y1 := h.y1
 have h31 := (daysI_cases y mo h.m0 h.m1).1
 have d0 := h.d0
 have d1 := h.d1
 unfold spec_Weekday.f
 have e : wrap64 ((wrap64 ((wrap64 ((wrap64 ((wrap64 ((wrap64 (y - 1)) * 365)) + (wrap64 (Int.tdiv (wrap64 (y - 1)) 4)))) - (wrap64 (Int.tdiv (wrap64 (y - 1)) 100)))) + (wrap64 (Int.tdiv (wrap64 (y - 1)) 400)))) + d) = ((y - 1) * 365 + (y - 1) / 4 - (y - 1) / 100 + (y - 1) / 400 + d) + cumI y 1 := by
  rw [cumI_one, wrap64_id (i := y - 1) (by omega) (by omega), Int.tdiv_eq_ediv_of_nonneg (show 0 ≤ y - 1 by omega), Int.tdiv_eq_ediv_of_nonneg (show 0 ≤ y - 1 by omega), Int.tdiv_eq_ediv_of_nonneg (show 0 ≤ y - 1 by omega)]
  unfold wrap64
  omega
 rw [e]
 have := weekday_from y mo (by omega) h.m1 ((y - 1) * 365 + (y - 1) / 4 - (y - 1) / 100 + (y - 1) / 400 + d) (by omega) (by omega) (mo - 1).toNat 1 rfl (by omega) h.m0
 exact this
def fitB (Fs : List (List It)) (y mo d h mi s : Int) : Bool := (List.range 6).all fun q => hasF q (Fs.getD q []) (posV y mo d h mi s q)
theorem fits_ev (f0 f1 f2 f3 f4 f5 : List It) (secs : Bool) {y mo d h mi s : Int} (hd : DateOk y mo d) (hc : ClockOk h mi s) (h0 : goodF 0 f0 = true) (h1 : goodF 1 f1 = true) (h2 : goodF 2 f2 = true) (h3 : goodF 3 f3 = true) (h4 : goodF 4 f4 = true) (h5 : goodF 5 f5 = true) :
  Ev (fun k => spec_Fits.f k [f0, f1, f2, f3, f4, f5] secs y mo d h mi s) (fitB [f0, f1, f2, f3, f4, f5] y mo d h mi s) := by
 have h31 := (daysI_cases y mo hd.m0 hd.m1).1
 have d0 := hd.d0
 have d1 := hd.d1
 have m0 := hd.m0
 have m1 := hd.m1
 have c0 := hc.h0
 have c1 := hc.h1
 have c2 := hc.m0
 have c3 := hc.m1
 have c4 := hc.s0
 have c5 := hc.s1
 have hw0 : 0 ≤ wdI y mo d := Int.emod_nonneg _ (by decide)
 have hw1 : wdI y mo d < 7 := Int.emod_lt_of_pos _ (by decide)
 have e0 := has_ev 0 (by decide) f0 h0 s (by omega) (by omega)
 have e1 := has_ev 1 (by decide) f1 h1 mi (by omega) (by omega)
 have e2 := has_ev 2 (by decide) f2 h2 h (by omega) (by omega)
 have e3 := has_ev 3 (by decide) f3 h3 d (by omega) (by omega)
 have e4 := has_ev 4 (by decide) f4 h4 mo (by omega) (by omega)
 have e5 := has_ev 5 (by decide) f5 h5 (wdI y mo d) (by omega) (by omega)
 have eW := weekday_ev hd
 have hv : fitB [f0, f1, f2, f3, f4, f5] y mo d h mi s = (hasF 0 f0 s && (hasF 1 f1 mi && (hasF 2 f2 h && (hasF 3 f3 d && (hasF 4 f4 mo && (hasF 5 f5 (wdI y mo d) && true)))))) := rfl
 have hday : Ev (fun k => spec_DayFits.f k [f0, f1, f2, f3, f4, f5] secs y mo d h mi s) (hasF 3 f3 d && (hasF 4 f4 mo && hasF 5 f5 (wdI y mo d))) := by
  unfold spec_DayFits.f
  refine Ev.congr (fun k => if_pos (by simp)) (Ev.bind e3 ?_)
  cases hasF 3 f3 d with
  | false => exact Ev.const rfl
  | true =>
   refine Ev.congr (fun k => (if_pos rfl).trans (if_pos (by simp))) (Ev.bind e4 ?_)
   cases hasF 4 f4 mo with
   | false => exact Ev.const rfl
   | true =>
    refine Ev.congr (fun k => (if_pos rfl).trans (if_pos (by simp))) (Ev.bind eW (Ev.bind e5 (Ev.const ?_)))
    simp
 unfold spec_Fits.f
 refine Ev.bind hday ?_
 rw [hv]
 cases hb : (hasF 3 f3 d && (hasF 4 f4 mo && hasF 5 f5 (wdI y mo d))) with
 | false =>
  refine Ev.const ?_
  revert hb
  cases hasF 3 f3 d <;> cases hasF 4 f4 mo <;> cases hasF 5 f5 (wdI y mo d) <;> simp
 | true =>
  have hb3 : hasF 3 f3 d = true := by simp at hb; exact hb.1
  have hb4 : hasF 4 f4 mo = true := by simp at hb; exact hb.2.1
  have hb5 : hasF 5 f5 (wdI y mo d) = true := by simp at hb; exact hb.2.2
  rw [hb3, hb4, hb5]
  refine Ev.congr (fun k => (if_pos rfl).trans (if_pos (by simp))) (Ev.bind e2 ?_)
  cases hasF 2 f2 h with
  | false => exact Ev.const (by simp)
  | true =>
   refine Ev.congr (fun k => (if_pos rfl).trans (if_pos (by simp))) (Ev.bind e1 ?_)
   cases hasF 1 f1 mi with
   | false => exact Ev.const (by simp)
   | true =>
    refine Ev.congr (fun k => (if_pos rfl).trans (if_pos (by simp))) (Ev.bind e0 (Ev.const ?_))
    simp
end Go.Proofs.YtemgofomhjabpaaGreatDoor.Core
namespace Go.Proofs.YtemgofomhjabpaaGreatDoor.Core
open Go.RowKit Go.Proofs.YtemgofomhjabpaaGreatDoorW.PrintWords
theorem joinL_single (c : UInt8) (P : List (List UInt8)) (hne : P ≠ []) (hP : ∀ p ∈ P, p ≠ []) (a : UInt8) (h : joinL c P = [a]) : P = [[a]] := by
 match P, hne with
 | [p], _ => rw [joinL] at h; rw [h]
 | p :: q :: t, _ =>
  exfalso
  have h1 := hP p (by simp)
  have h2 := joinL_ne c (q :: t) (by simp) (fun p hp => hP p (by simp [hp]))
  rw [joinL] at h
  have := congrArg List.length h
  simp only [List.length_append, List.length_cons, List.length_nil] at this
  have l1 := List.length_pos_iff.2 h1
  omega
theorem field_star {i : Nat} {l : List It} (hg : goodF i l = true) (h : fieldL l = [42]) : starF l = true := by
 obtain ⟨h1, h2, h3⟩ := goodF_spec hg
 have e := joinL_single 44 (l.map itemL) (by intro e; have := congrArg List.length e; simp at this; subst this; simp at h2) (fun p hp => by obtain ⟨x, _, rfl⟩ := List.mem_map.1 hp; exact itemL_ne x) 42 h
 have hl1 : l.length = 1 := by have := congrArg List.length e; simpa using this
 obtain ⟨x, rfl⟩ := List.length_eq_one_iff.1 hl1
 have hx : itemL x = [42] := by simpa using e
 obtain ⟨s1, _, _⟩ := goodItem_spec (h1 x (by simp))
 cases h0 : x.f0 with
 | false =>
  exfalso
  unfold itemL at hx
  rw [h0] at hx
  exact dec_ne' x.f1.toNat _ 42 [] (by decide) hx
 | true =>
  by_cases hs : 1 < x.f3
  ·exfalso
   simp [itemL, h0, stepL, hs] at hx
  ·have : x.f3 = 1 := by omega
   simp [starF, h0, this]
theorem star_field {l : List It} (h : starF l = true) : fieldL l = [42] ∧ ∃ x, l = [x] ∧ x.f0 = true ∧ x.f3 = 1 := by
 unfold starF at h
 split at h
 ·rename_i x
  simp only [Bool.and_eq_true, beq_iff_eq] at h
  exact ⟨by simp [fieldL, joinL, itemL, stepL, h.1, h.2], x, rfl, h.1, h.2⟩
 ·cases h
theorem star_has {i : Nat} {l : List It} (h : starF l = true) (n : Int) (n0 : lowI i ≤ n) (n1 : n ≤ highI i) : hasF i l n = true := by
 obtain ⟨_, x, rfl, h0, h1⟩ := star_field h
 simp [hasF, hasIt, h0, h1, n0, n1, Int.emod_one]
theorem field_no63 {i : Nat} {l : List It} (hg : goodF i l = true) : fieldL l ≠ [63] := by
 intro h
 obtain ⟨h1, h2, h3⟩ := goodF_spec hg
 have e := joinL_single 44 (l.map itemL) (by intro e; have := congrArg List.length e; simp at this; subst this; simp at h2) (fun p hp => by obtain ⟨x, _, rfl⟩ := List.mem_map.1 hp; exact itemL_ne x) 63 h
 have : ([63] : List UInt8) ∈ l.map itemL := by rw [e]; simp
 obtain ⟨x, _, hx⟩ := List.mem_map.1 this
 exact itemL_not x 63 (by decide) (by decide) (by decide) (by decide) (by rw [hx]; simp)
end Go.Proofs.YtemgofomhjabpaaGreatDoor.Core
namespace Go.Proofs.YtemgofomhjabpaaGreatDoor.Core
open Go.RowKit Go.Proofs.YtemgofomhjabpaaGreatDoorW.PrintWords
set_option maxRecDepth 100000 in
set_option maxHeartbeats 2000000 in
theorem mg_5 (y mo d h mi s : Int) (a0 : 1990 ≤ y) (a1 : y ≤ 2090) (a2 : 1 ≤ mo) (a3 : mo ≤ 12) (a4 : 1 ≤ d) (a5 : ¬ d ≤ daysI y mo) : GoodC y mo d h mi s false := by
 intro w
 have hdy := Aside0.mk (days_some y mo (by omega) a2 a3)
 replace a5 : (d ≤ daysI y mo) = False := eq_false a5
 go_enter Tryz.func22, Tryz.ntmps22
 go_wp2
 go_quiet (first | (go_at_call 37; exact days_quiet y mo hdy.out _ _))
 go_wp2
 go_ret
 exact ⟨rfl, by repeat (first | exact Below.refl _ _ | apply below_alloc | apply below_drew1 | apply pw_below_drewN)⟩
set_option maxRecDepth 100000 in
set_option maxHeartbeats 2000000 in
theorem mg_6 (y mo d h mi s : Int) (a0 : 1990 ≤ y) (a1 : y ≤ 2090) (a2 : 1 ≤ mo) (a3 : mo ≤ 12) (a4 : 1 ≤ d) (a5 : d ≤ daysI y mo) (a6 : ¬ 0 ≤ h) : GoodC y mo d h mi s false := by
 intro w
 have hdy := Aside0.mk (days_some y mo (by omega) a2 a3)
 replace a6 : (0 ≤ h) = False := eq_false a6
 go_enter Tryz.func22, Tryz.ntmps22
 go_wp2
 go_quiet (first | (go_at_call 37; exact days_quiet y mo hdy.out _ _))
 go_wp2
 go_ret
 exact ⟨rfl, by repeat (first | exact Below.refl _ _ | apply below_alloc | apply below_drew1 | apply pw_below_drewN)⟩
end Go.Proofs.YtemgofomhjabpaaGreatDoor.Core
namespace Go.Proofs.YtemgofomhjabpaaGreatDoor.Core
open Go.RowKit Go.Proofs.YtemgofomhjabpaaGreatDoorW.PrintWords
set_option maxRecDepth 100000 in
set_option maxHeartbeats 2000000 in
theorem mg_7 (y mo d h mi s : Int) (a0 : 1990 ≤ y) (a1 : y ≤ 2090) (a2 : 1 ≤ mo) (a3 : mo ≤ 12) (a4 : 1 ≤ d) (a5 : d ≤ daysI y mo) (a6 : 0 ≤ h) (a7 : ¬ h ≤ 23) : GoodC y mo d h mi s false := by
 intro w
 have hdy := Aside0.mk (days_some y mo (by omega) a2 a3)
 replace a7 : (h ≤ 23) = False := eq_false a7
 go_enter Tryz.func22, Tryz.ntmps22
 go_wp2
 go_quiet (first | (go_at_call 37; exact days_quiet y mo hdy.out _ _))
 go_wp2
 go_ret
 exact ⟨rfl, by repeat (first | exact Below.refl _ _ | apply below_alloc | apply below_drew1 | apply pw_below_drewN)⟩
set_option maxRecDepth 100000 in
set_option maxHeartbeats 2000000 in
theorem mg_8 (y mo d h mi s : Int) (a0 : 1990 ≤ y) (a1 : y ≤ 2090) (a2 : 1 ≤ mo) (a3 : mo ≤ 12) (a4 : 1 ≤ d) (a5 : d ≤ daysI y mo) (a6 : 0 ≤ h) (a7 : h ≤ 23) (a8 : ¬ 0 ≤ mi) : GoodC y mo d h mi s false := by
 intro w
 have hdy := Aside0.mk (days_some y mo (by omega) a2 a3)
 replace a8 : (0 ≤ mi) = False := eq_false a8
 go_enter Tryz.func22, Tryz.ntmps22
 go_wp2
 go_quiet (first | (go_at_call 37; exact days_quiet y mo hdy.out _ _))
 go_wp2
 go_ret
 exact ⟨rfl, by repeat (first | exact Below.refl _ _ | apply below_alloc | apply below_drew1 | apply pw_below_drewN)⟩
end Go.Proofs.YtemgofomhjabpaaGreatDoor.Core
namespace Go.Proofs.YtemgofomhjabpaaGreatDoor.Core
open Go.RowKit Go.Proofs.YtemgofomhjabpaaGreatDoorW.PrintWords
set_option maxRecDepth 100000 in
set_option maxHeartbeats 2000000 in
theorem mg_9 (y mo d h mi s : Int) (a0 : 1990 ≤ y) (a1 : y ≤ 2090) (a2 : 1 ≤ mo) (a3 : mo ≤ 12) (a4 : 1 ≤ d) (a5 : d ≤ daysI y mo) (a6 : 0 ≤ h) (a7 : h ≤ 23) (a8 : 0 ≤ mi) (a9 : ¬ mi ≤ 59) : GoodC y mo d h mi s false := by
 intro w
 have hdy := Aside0.mk (days_some y mo (by omega) a2 a3)
 replace a9 : (mi ≤ 59) = False := eq_false a9
 go_enter Tryz.func22, Tryz.ntmps22
 go_wp2
 go_quiet (first | (go_at_call 37; exact days_quiet y mo hdy.out _ _))
 go_wp2
 go_ret
 exact ⟨rfl, by repeat (first | exact Below.refl _ _ | apply below_alloc | apply below_drew1 | apply pw_below_drewN)⟩
set_option maxRecDepth 100000 in
set_option maxHeartbeats 2000000 in
theorem mg_10 (y mo d h mi s : Int) (a0 : 1990 ≤ y) (a1 : y ≤ 2090) (a2 : 1 ≤ mo) (a3 : mo ≤ 12) (a4 : 1 ≤ d) (a5 : d ≤ daysI y mo) (a6 : 0 ≤ h) (a7 : h ≤ 23) (a8 : 0 ≤ mi) (a9 : mi ≤ 59) (a10 : ¬ 0 ≤ s) : GoodC y mo d h mi s false := by
 intro w
 have hdy := Aside0.mk (days_some y mo (by omega) a2 a3)
 replace a10 : (0 ≤ s) = False := eq_false a10
 go_enter Tryz.func22, Tryz.ntmps22
 go_wp2
 go_quiet (first | (go_at_call 37; exact days_quiet y mo hdy.out _ _))
 go_wp2
 go_ret
 exact ⟨rfl, by repeat (first | exact Below.refl _ _ | apply below_alloc | apply below_drew1 | apply pw_below_drewN)⟩
end Go.Proofs.YtemgofomhjabpaaGreatDoor.Core
namespace Go.Proofs.YtemgofomhjabpaaGreatDoor.Core
open Go.RowKit Go.Proofs.YtemgofomhjabpaaGreatDoorW.PrintWords
set_option maxRecDepth 100000 in
set_option maxHeartbeats 2000000 in
theorem mg_11 (y mo d h mi s : Int) (a0 : 1990 ≤ y) (a1 : y ≤ 2090) (a2 : 1 ≤ mo) (a3 : mo ≤ 12) (a4 : 1 ≤ d) (a5 : d ≤ daysI y mo) (a6 : 0 ≤ h) (a7 : h ≤ 23) (a8 : 0 ≤ mi) (a9 : mi ≤ 59) (a10 : 0 ≤ s) (a11 : ¬ s ≤ 59) : GoodC y mo d h mi s false := by
 intro w
 have hdy := Aside0.mk (days_some y mo (by omega) a2 a3)
 replace a11 : (s ≤ 59) = False := eq_false a11
 go_enter Tryz.func22, Tryz.ntmps22
 go_wp2
 go_quiet (first | (go_at_call 37; exact days_quiet y mo hdy.out _ _))
 go_wp2
 go_ret
 exact ⟨rfl, by repeat (first | exact Below.refl _ _ | apply below_alloc | apply below_drew1 | apply pw_below_drewN)⟩
set_option maxRecDepth 100000 in
set_option maxHeartbeats 2000000 in
theorem mg_12 (y mo d h mi s : Int) (a0 : 1990 ≤ y) (a1 : y ≤ 2090) (a2 : 1 ≤ mo) (a3 : mo ≤ 12) (a4 : 1 ≤ d) (a5 : d ≤ daysI y mo) (a6 : 0 ≤ h) (a7 : h ≤ 23) (a8 : 0 ≤ mi) (a9 : mi ≤ 59) (a10 : 0 ≤ s) (a11 : s ≤ 59) : GoodC y mo d h mi s true := by
 intro w
 have hdy := Aside0.mk (days_some y mo (by omega) a2 a3)
 go_enter Tryz.func22, Tryz.ntmps22
 go_wp2
 go_quiet (first | (go_at_call 37; exact days_quiet y mo hdy.out _ _))
 go_wp2
 go_ret
 exact ⟨rfl, by repeat (first | exact Below.refl _ _ | apply below_alloc | apply below_drew1 | apply pw_below_drewN)⟩
end Go.Proofs.YtemgofomhjabpaaGreatDoor.Core
namespace Go.Proofs.YtemgofomhjabpaaGreatDoor.Core
open Go.RowKit Go.Proofs.YtemgofomhjabpaaGreatDoorW.PrintWords
theorem goodM_eq (y mo d h mi s : Int) : spec_MomentGood.f y mo d h mi s = some (goodM y mo d h mi s) := by
 unfold goodM
 by_cases b0 : ¬ 1990 ≤ y
 ·rw [(mg_0 y mo d h mi s b0).eq, decide_eq_false (fun e => b0 e.1)]
 have a0 : 1990 ≤ y := Decidable.of_not_not b0
 by_cases b1 : ¬ y ≤ 2090
 ·rw [(mg_1 y mo d h mi s a0 b1).eq, decide_eq_false (fun e => b1 e.2.1)]
 have a1 : y ≤ 2090 := Decidable.of_not_not b1
 by_cases b2 : ¬ 1 ≤ mo
 ·rw [(mg_2 y mo d h mi s a0 a1 b2).eq, decide_eq_false (fun e => b2 e.2.2.1)]
 have a2 : 1 ≤ mo := Decidable.of_not_not b2
 by_cases b3 : ¬ mo ≤ 12
 ·rw [(mg_3 y mo d h mi s a0 a1 a2 b3).eq, decide_eq_false (fun e => b3 e.2.2.2.1)]
 have a3 : mo ≤ 12 := Decidable.of_not_not b3
 by_cases b4 : ¬ 1 ≤ d
 ·rw [(mg_4 y mo d h mi s a0 a1 a2 a3 b4).eq, decide_eq_false (fun e => b4 e.2.2.2.2.1)]
 have a4 : 1 ≤ d := Decidable.of_not_not b4
 by_cases b5 : ¬ d ≤ daysI y mo
 ·rw [(mg_5 y mo d h mi s a0 a1 a2 a3 a4 b5).eq, decide_eq_false (fun e => b5 e.2.2.2.2.2.1)]
 have a5 : d ≤ daysI y mo := Decidable.of_not_not b5
 by_cases b6 : ¬ 0 ≤ h
 ·rw [(mg_6 y mo d h mi s a0 a1 a2 a3 a4 a5 b6).eq, decide_eq_false (fun e => b6 e.2.2.2.2.2.2.1)]
 have a6 : 0 ≤ h := Decidable.of_not_not b6
 by_cases b7 : ¬ h ≤ 23
 ·rw [(mg_7 y mo d h mi s a0 a1 a2 a3 a4 a5 a6 b7).eq, decide_eq_false (fun e => b7 e.2.2.2.2.2.2.2.1)]
 have a7 : h ≤ 23 := Decidable.of_not_not b7
 by_cases b8 : ¬ 0 ≤ mi
 ·rw [(mg_8 y mo d h mi s a0 a1 a2 a3 a4 a5 a6 a7 b8).eq, decide_eq_false (fun e => b8 e.2.2.2.2.2.2.2.2.1)]
 have a8 : 0 ≤ mi := Decidable.of_not_not b8
 by_cases b9 : ¬ mi ≤ 59
 ·rw [(mg_9 y mo d h mi s a0 a1 a2 a3 a4 a5 a6 a7 a8 b9).eq, decide_eq_false (fun e => b9 e.2.2.2.2.2.2.2.2.2.1)]
 have a9 : mi ≤ 59 := Decidable.of_not_not b9
 by_cases b10 : ¬ 0 ≤ s
 ·rw [(mg_10 y mo d h mi s a0 a1 a2 a3 a4 a5 a6 a7 a8 a9 b10).eq, decide_eq_false (fun e => b10 e.2.2.2.2.2.2.2.2.2.2.1)]
 have a10 : 0 ≤ s := Decidable.of_not_not b10
 by_cases b11 : ¬ s ≤ 59
 ·rw [(mg_11 y mo d h mi s a0 a1 a2 a3 a4 a5 a6 a7 a8 a9 a10 b11).eq, decide_eq_false (fun e => b11 e.2.2.2.2.2.2.2.2.2.2.2)]
 have a11 : s ≤ 59 := Decidable.of_not_not b11
 rw [(mg_12 y mo d h mi s a0 a1 a2 a3 a4 a5 a6 a7 a8 a9 a10 a11).eq, decide_eq_true ⟨a0, a1, a2, a3, a4, a5, a6, a7, a8, a9, a10, a11⟩]
end Go.Proofs.YtemgofomhjabpaaGreatDoor.Core
namespace Go.Proofs.YtemgofomhjabpaaGreatDoor.Core
open Go.RowKit Go.Proofs.YtemgofomhjabpaaGreatDoorW.PrintWords
abbrev Ro := S69
def cv (x : Ro) : It := ⟨x.f0, x.f1, x.f2, x.f3⟩
def cvs (raw : List (List Ro)) : List (List It) := raw.map fun l => l.map cv
def fitsB (raw : List (List Ro)) : Bool := decide (raw.length ≤ 2147483647) && raw.all fun l => decide (l.length ≤ 2147483647)
theorem rdRo_at (l : List Ro) (j : Nat) (h : j < l.length) : rd_T69 l (j : Int) = l[j] := by simp [rd_T69, h]
theorem rdRoF_at (l : List (List Ro)) (j : Nat) (h : j < l.length) : rd_L3 l (j : Int) = l[j] := by simp [rd_L3, h]
theorem fits_from (raw : List (List Ro)) (hl : raw.length ≤ 2147483647) :
  ∀ (rest : List (List Ro)) (j : Nat), raw.drop j = rest → j ≤ raw.length → Ev (fun k => laws_zzFits2.l0 k raw (raw.length : Int) (j : Int)) (rest.all fun l => decide (l.length ≤ 2147483647)) := by
 intro rest
 induction rest with
 | nil =>
  intro j hj hjl
  have hlen : raw.length ≤ j := List.drop_eq_nil_iff.1 hj
  refine Ev.done fun k => ?_
  simp only [laws_zzFits2.l0]
  rw [if_neg (by omega)]
  rfl
 | cons x t ih =>
  intro j hj hjl
  have hlt : j < raw.length := by
   rcases Nat.lt_or_ge j raw.length with h | h
   ·exact h
   ·rw [List.drop_eq_nil_of_le h] at hj; cases hj
  have hx : raw[j] = x := by
   have := List.drop_eq_getElem_cons hlt
   rw [hj] at this
   exact (List.cons.inj this).1.symm
  have ht : raw.drop (j + 1) = t := by rw [← List.drop_drop, hj]; rfl
  have hrd := rdRoF_at raw j hlt
  rw [hx] at hrd
  have hrec := ih (j + 1) ht (by omega)
  rw [List.all_cons]
  by_cases h1 : x.length ≤ 2147483647
  ·rw [decide_eq_true h1, Bool.true_and]
   refine Ev.step (f := fun k => laws_zzFits2.l0 k raw (raw.length : Int) ((j + 1 : Nat) : Int)) (fun k => ?_) hrec
   simp only [laws_zzFits2.l0, hrd]
   rw [if_pos (by omega), if_pos (by omega), if_pos (by omega), if_neg (by omega), wrap64_nat j (by omega)]
  ·rw [decide_eq_false h1, Bool.false_and]
   refine Ev.done fun k => ?_
   simp only [laws_zzFits2.l0, hrd]
   rw [if_pos (by omega), if_pos (by omega), if_pos (by omega), if_pos (by omega)]
theorem fits2_ev (raw : List (List Ro)) : Ev (fun k => laws_zzFits2.f k raw) (fitsB raw) := by
 unfold fitsB
 by_cases h : raw.length ≤ 2147483647
 ·rw [decide_eq_true h, Bool.true_and]
  refine Ev.congr (f := fun k => laws_zzFits2.l0 k raw (raw.length : Int) ((0 : Nat) : Int)) (fun k => ?_) (fits_from raw h raw 0 rfl (Nat.zero_le _))
  unfold laws_zzFits2.f
  rw [if_neg (by omega)]
  rfl
 ·rw [decide_eq_false h, Bool.false_and]
  refine Ev.congr (f := fun _ => some false) (fun k => ?_) (Ev.const rfl)
  unfold laws_zzFits2.f
  rw [if_pos (by omega)]
theorem fits1_ev (raw : List (List Ro)) (secs : Bool) : Ev (fun k => laws_zzFits1.f k raw secs) (fitsB raw) := by
 unfold laws_zzFits1.f
 refine Ev.bind (f := fun _ t => if t = true then some true else some false) (fits2_ev raw) (Ev.const ?_)
 cases fitsB raw <;> rfl
theorem fitsB_spec {raw : List (List Ro)} (h : fitsB raw = true) : raw.length ≤ 2147483647 ∧ ∀ l ∈ raw, l.length ≤ 2147483647 := by
 unfold fitsB at h
 simp only [Bool.and_eq_true, decide_eq_true_eq, List.all_eq_true] at h
 exact h
theorem expr_l1 (raw : List (List Ro)) (j : Int) (out : List (List It)) (secs : Bool) (l : List Ro) (hl : l.length ≤ 2147483647) (r : List (List It) × Bool) (ho : out.length < 5864062014805)
  (hn : Ev (fun k => laws_expr.l0 k raw (raw.length : Int) (wrap64 (j + 1)) (out ++ [l.map cv]) secs) r) :
  ∀ (rest : List Ro) (i : Nat), l.drop i = rest → i ≤ l.length → Ev (fun k => laws_expr.l1 k ((l.take i).map cv) raw (raw.length : Int) j l (l.length : Int) (i : Int) out secs) r := by
 intro rest
 induction rest with
 | nil =>
  intro i hi hil
  have hlen : l.length ≤ i := List.drop_eq_nil_iff.1 hi
  refine Ev.step (f := fun k => laws_expr.l0 k raw (raw.length : Int) (wrap64 (j + 1)) (out ++ [l.map cv]) secs) (fun k => ?_) hn
  simp only [laws_expr.l1]
  rw [if_neg (by omega), if_pos ho, List.take_of_length_le hlen]
 | cons x t ih =>
  intro i hi hil
  have hlt : i < l.length := by
   rcases Nat.lt_or_ge i l.length with h | h
   ·exact h
   ·rw [List.drop_eq_nil_of_le h] at hi; cases hi
  have ht : l.drop (i + 1) = t := by rw [← List.drop_drop, hi]; rfl
  have hrec := ih (i + 1) ht (by omega)
  refine Ev.step (f := fun k => laws_expr.l1 k ((l.take (i + 1)).map cv) raw (raw.length : Int) j l (l.length : Int) ((i + 1 : Nat) : Int) out secs) (fun k => ?_) hrec
  simp only [laws_expr.l1, rdRo_at l i hlt]
  rw [if_pos (by omega), if_pos (by omega), if_pos (by omega), if_pos (by rw [List.length_map, List.length_take]; omega), wrap64_nat i (by omega), List.take_succ_eq_append_getElem hlt, List.map_append]
  rfl
theorem expr_from (raw : List (List Ro)) (secs : Bool) (h : fitsB raw = true) :
  ∀ (rest : List (List Ro)) (j : Nat), raw.drop j = rest → j ≤ raw.length → Ev (fun k => laws_expr.l0 k raw (raw.length : Int) (j : Int) (cvs (raw.take j)) secs) (cvs raw, secs) := by
 obtain ⟨hl, hall⟩ := fitsB_spec h
 intro rest
 induction rest with
 | nil =>
  intro j hj hjl
  have hlen : raw.length ≤ j := List.drop_eq_nil_iff.1 hj
  refine Ev.done fun k => ?_
  simp only [laws_expr.l0]
  rw [if_neg (by omega), List.take_of_length_le hlen]
 | cons x t ih =>
  intro j hj hjl
  have hlt : j < raw.length := by
   rcases Nat.lt_or_ge j raw.length with h | h
   ·exact h
   ·rw [List.drop_eq_nil_of_le h] at hj; cases hj
  have hx : raw[j] = x := by
   have := List.drop_eq_getElem_cons hlt
   rw [hj] at this
   exact (List.cons.inj this).1.symm
  have ht : raw.drop (j + 1) = t := by rw [← List.drop_drop, hj]; rfl
  have hrd := rdRoF_at raw j hlt
  rw [hx] at hrd
  have hrec := ih (j + 1) ht (by omega)
  have hxl : x.length ≤ 2147483647 := hall x (by rw [← hx]; exact List.getElem_mem hlt)
  have hout : (cvs (raw.take j)).length < 5864062014805 := by unfold cvs; rw [List.length_map, List.length_take]; omega
  have e : cvs (raw.take (j + 1)) = cvs (raw.take j) ++ [x.map cv] := by unfold cvs; rw [List.take_succ_eq_append_getElem hlt, List.map_append, hx]; rfl
  rw [e] at hrec
  have h1 := expr_l1 raw (j : Int) (cvs (raw.take j)) secs x hxl (cvs raw, secs) hout (by rw [wrap64_nat j (by omega)]; exact hrec) x 0 rfl (Nat.zero_le _)
  refine Ev.step (f := fun k => laws_expr.l1 k [] raw (raw.length : Int) (j : Int) x (x.length : Int) 0 (cvs (raw.take j)) secs) (fun k => ?_) h1
  simp only [laws_expr.l0, hrd]
  rw [if_pos (by omega), if_pos (by omega), if_pos (by omega)]
theorem expr_ev (raw : List (List Ro)) (secs : Bool) (h : fitsB raw = true) : Ev (fun k => laws_expr.f k raw secs) (cvs raw, secs) :=
 expr_from raw secs h raw 0 rfl (Nat.zero_le _)
theorem cvs_len {raw : List (List Ro)} (h : fitsB raw = true) : ∀ l ∈ cvs raw, l.length < 4611686018427387904 := by
 intro l hl
 unfold cvs at hl
 obtain ⟨m, hm, rfl⟩ := List.mem_map.1 hl
 have := (fitsB_spec h).2 m hm
 rw [List.length_map]
 omega
end Go.Proofs.YtemgofomhjabpaaGreatDoor.Core
namespace Go.Proofs.YtemgofomhjabpaaGreatDoor.Core
open Go.RowKit Go.Proofs.YtemgofomhjabpaaGreatDoorW.PrintWords
theorem goodM_spec {y mo d h mi s : Int} (hM : goodM y mo d h mi s = true) : DateOk y mo d ∧ ClockOk h mi s := by
 obtain ⟨a0, a1, a2, a3, a4, a5, a6, a7, a8, a9, a10, a11⟩ := of_decide_eq_true hM
 exact ⟨⟨by omega, by omega, a2, a3, a4, a5⟩, ⟨a6, a7, a8, a9, a10, a11⟩⟩
theorem asked_ev (Fs : List (List It)) (secs : Bool) (hl : ∀ l ∈ Fs, l.length < 4611686018427387904) (y mo d h mi s : Int) : Ev (fun k => laws_asked.f k Fs secs y mo d h mi s) (goodE Fs secs && goodM y mo d h mi s) := by
 unfold laws_asked.f
 refine Ev.bind (exprGood_ev Fs secs hl) ?_
 cases goodE Fs secs with
 | false => exact Ev.congr (fun k => if_neg (by simp)) (Ev.now false)
 | true =>
  simp only [if_true, laws_moment.f, Option.bind_some, goodM_eq, Bool.true_and]
  exact Ev.now _
theorem fitsE_ev {Fs : List (List It)} {secs : Bool} (hE : goodE Fs secs = true) {y mo d h mi s : Int} (hd : DateOk y mo d) (hc : ClockOk h mi s) : Ev (fun k => spec_Fits.f k Fs secs y mo d h mi s) (fitB Fs y mo d h mi s) := by
 obtain ⟨f0, f1, f2, f3, f4, f5, rfl, h0, h1, h2, h3, h4, h5, _⟩ := goodE_spec hE
 exact fits_ev f0 f1 f2 f3 f4 f5 secs hd hc h0 h1 h2 h3 h4 h5
end Go.Proofs.YtemgofomhjabpaaGreatDoor.Core
namespace Go.Proofs.YtemgofomhjabpaaGreatDoor.Core
open Go.RowKit Go.Proofs.YtemgofomhjabpaaGreatDoorW.PrintWords
theorem segA_text {x y mo d h mi s : Int} (M : Moment' x y mo d h mi s) (pos : Nat) (hp : pos < 7) (t : List UInt8) (ht : t.length < 1000) (h44 : 44 ∉ t) (hm : ∀ b ∈ t, b ≠ 76 ∧ b ≠ 87 ∧ b ≠ 35) (b : Bool)
  (hb : ∀ c, OffC c (posV y mo d h mi s pos) pos (B t) b false) : SegA x (B t) pos b false := by
 refine segA_parts M pos hp [t] (by simp) (by simpa using h44) (by show t.length < _; omega) (by simp) (fun p hp => by obtain rfl := List.mem_singleton.1 hp; exact ⟨by omega, hm⟩) b false (fun c => ?_)
 refine ⟨b, false, hb c, ?_⟩
 cases b with
 | true => rw [if_pos (Or.inl rfl)]; exact ⟨rfl, rfl⟩
 | false => rw [if_neg (by simp)]; exact ⟨rfl, rfl⟩
theorem due_segs {y mo d h mi s : Int} (hd : DateOk y mo d) (hc : ClockOk h mi s) (expr : ByteArray) (S : List (List UInt8)) (hS : Ev (fun k => gronx_Segments.f k expr) (S.map B, none)) (h6 : 6 ≤ S.length) (h7 : S.length ≤ 7) (hl : ∀ p ∈ S, p.length < 1000000) (bs : Nat → Bool)
  (hA : ∀ (q : Nat) (hq : q < S.length), ((S[q] = [42] ∨ S[q] = [63]) ∧ bs q = true) ∨ (S[q] ≠ [42] ∧ S[q] ≠ [63] ∧ SegA (extOf y mo d h mi s) (B S[q]) q (bs q) false)) (hx : S[5] = [42] ∨ S[5] = [63] ∨ S[3] = [42] ∨ S[3] = [63]) :
  DueC expr y mo d h mi s ((List.range S.length).all bs) true := by
 obtain ⟨K, hK⟩ := hS
 have l3 := hl S[3] (List.getElem_mem _)
 have l5 := hl S[5] (List.getElem_mem _)
 obtain ⟨K5, hK5⟩ := zzIndex_ev S[5] [42, 47] (by simp) (by omega) (by simp)
 obtain ⟨K3, hK3⟩ := zzIndex_ev S[3] [42] (by simp) (by omega) (by simp)
 refine due_w hd hc _ K _ (hK K (Nat.le_refl _)) _ (fun G C => ?_)
 have g5 : (S.map B)[5]'(by simp; omega) = B S[5] := List.getElem_map _
 have g3 : (S.map B)[3]'(by simp; omega) = B S[3] := List.getElem_map _
 refine segmentsDue_w G C _ _ (max K5 K3) (idxL [42, 47] S[5] 0) (idxL [42] S[3] 0) (by simpa using h6) (by simpa using h7) (by rw [g5]; exact hK5 _ (by omega)) (by rw [g3]; exact hK3 _ (by omega)) ?_ _ ?_
 ·rw [g5, g3]
  rcases hx with e | e | e | e
  ·exact .inl (.inl (by rw [e]; rfl))
  ·exact .inl (.inr (by rw [e]; rfl))
  ·exact .inr (.inr (.inl (by rw [e]; rfl)))
  ·exact .inr (.inr (.inr (by rw [e]; rfl)))
 ·have hr := dueR_all (extOf y mo d h mi s) (S.map B) bs (fun q hq => by
   rw [List.getElem_map]
   have hq' : q < S.length := by simpa using hq
   rcases hA q hq' with ⟨e | e, hb⟩ | ⟨e1, e2, h⟩
   ·exact .inl ⟨.inl (by rw [e]; rfl), hb⟩
   ·exact .inl ⟨.inr (by rw [e]; rfl), hb⟩
   ·exact .inr ⟨fun e => e1 (B_inj e), fun e => e2 (B_inj e), h⟩) S.length (by simp)
  rw [List.length_map]
  exact hr
end Go.Proofs.YtemgofomhjabpaaGreatDoor.Core
namespace Go.Proofs.YtemgofomhjabpaaGreatDoor.Core
open Go.RowKit Go.Proofs.YtemgofomhjabpaaGreatDoorW.PrintWords
end Go.Proofs.YtemgofomhjabpaaGreatDoor.Core
namespace Go.Proofs.YtemgofomhjabpaaGreatDoor.Core
open Go.RowKit Go.Proofs.YtemgofomhjabpaaGreatDoorW.PrintWords
def yearL (n : Nat) : List UInt8 := [UInt8.ofNat (48 + n / 1000), UInt8.ofNat (48 + n / 100 % 10), UInt8.ofNat (48 + n / 10 % 10), UInt8.ofNat (48 + n % 10)]
theorem decN_year (n : Nat) (h0 : 1000 ≤ n) (h1 : n < 10000) : decN n = yearL n := by
 rw [decN_ge n (by omega), decN_ge (n / 10) (by omega), decN_ge (n / 10 / 10) (by omega), decN_lt (n / 10 / 10 / 10) (by omega)]
 have e1 : n / 10 / 10 / 10 = n / 1000 := by omega
 have e2 : n / 10 / 10 % 10 = n / 100 % 10 := by omega
 rw [e1, e2]
 rfl
theorem year_table : ∀ n : Fin 101, Lib.atoi (yearL (1990 + n.val)) = some ((1990 + n.val : Nat) : Int) ∧ hasYr (yearL (1990 + n.val)) 0 = true := by decide +kernel
theorem year_facts (n : Nat) (h0 : 1990 ≤ n) (h1 : n ≤ 2090) : Lib.atoi (decN n) = some (n : Int) ∧ hasYr (decN n) 0 = true := by
 have := year_table ⟨n - 1990, by omega⟩
 rw [decN_year n (by omega) (by omega)]
 rw [show 1990 + (n - 1990) = n by omega] at this
 exact this
theorem atoi_year (n : Nat) (h0 : 1990 ≤ n) (h1 : n ≤ 2090) : strconv_Atoi.f (B (decN n)) = some ((n : Int), none) := by
 unfold strconv_Atoi.f
 have hl := decN_length n 3 (by omega)
 rw [B_size, if_pos (by omega), B_data, (year_facts n h0 h1).1]
 rfl
theorem offC_year (c : Nat) (n : Nat) (h0 : 1990 ≤ n) (h1 : n ≤ 2090) (val : Int) (hv : val ≠ 0) : OffC c val 6 (B (decN n)) (decide ((n : Int) = val)) false := by
 have hl := decN_length n 3 (by omega)
 obtain ⟨K1, hK1⟩ := bounds_ev 6 (by decide)
 obtain ⟨K2, hK2⟩ := contains_no 47 _ (dec_no n 47 (by decide)) (by omega)
 obtain ⟨K3, hK3⟩ := contains_no 45 _ (dec_no n 45 (by decide)) (by omega)
 have f1 := hK1 (max K1 (max K2 K3)) (by omega)
 have f2 := hK2 (max K1 (max K2 K3)) (by omega)
 have f3 := hK3 (max K1 (max K2 K3)) (by omega)
 have s1 : (B (decN n)).toList ≠ ([42] : List UInt8) := by rw [B_list]; simpa using dec_ne' n [] 42 [] (by decide)
 have s2 : (B (decN n)).toList ≠ ([63] : List UInt8) := by rw [B_list]; simpa using dec_ne' n [] 63 [] (by decide)
 have ha := atoi_year n h0 h1
 have lo : rd [loB 6, hiB 6] 0 ≤ (n : Int) := by show (0 : Int) ≤ n; omega
 have hi : (n : Int) ≤ rd [loB 6, hiB 6] 1 := by show (n : Int) ≤ 9999; omega
 by_cases e : (n : Int) = val
 ·rw [decide_eq_true e]; exact offNum_eq c _ _ val _ 6 s1 s2 f1 rfl n f2 f3 ha lo hi (by decide) hv (by omega) e
 ·rw [decide_eq_false e]; exact offNum_ne c _ _ val _ 6 s1 s2 f1 rfl n f2 f3 ha lo hi (by decide) hv (by omega) e
theorem year_segs {Fs : List (List It)} (hE : goodE Fs false = true) (n : Nat) (h0 : 1990 ≤ n) (h1 : n ≤ 2090) : Ev (fun k => gronx_Segments.f k (B (textL Fs false ++ 32 :: decN n))) (((Fs.map fieldL) ++ [decN n]).map B, none) := by
 obtain ⟨f0, f1, f2, f3, f4, f5, rfl, g0, g1, g2, g3, g4, g5, hr⟩ := goodE_spec hE
 have hz : zeroF f0 = true := by
  unfold restE at hr
  simp only [Bool.and_eq_true, Bool.false_or] at hr
  exact hr.1.1
 have l1 := fieldL_length g1
 have l2 := fieldL_length g2
 have l3 := fieldL_length g3
 have l4 := fieldL_length g4
 have l5 := fieldL_length g5
 have ln := decN_length n 3 (by omega)
 have hs := segments_ev [fieldL f1, fieldL f2, fieldL f3, fieldL f4, fieldL f5, decN n] (by
  intro p hp
  simp only [List.mem_cons, List.not_mem_nil, or_false] at hp
  rcases hp with rfl | rfl | rfl | rfl | rfl | rfl
  ·exact field_part g1
  ·exact field_part g2
  ·exact field_part g3
  ·exact field_part g4
  ·exact field_part g5
  ·exact ⟨decN_ne n, decN_part n⟩) (by simp [joinL]; omega) (by simp) (by simp) (by intro _; simp; omega)
 rw [if_pos (Or.inr ⟨rfl, (year_facts n h0 h1).2⟩)] at hs
 have e : textL [f0, f1, f2, f3, f4, f5] false ++ 32 :: decN n = joinL 32 [fieldL f1, fieldL f2, fieldL f3, fieldL f4, fieldL f5, decN n] := by simp [textL, written, joinL]
 rw [e]
 have e0 := zeroF_field hz
 simp only [List.map_cons, List.map_nil, List.cons_append, List.nil_append, e0]
 exact hs
theorem due_year {Fs : List (List It)} (hE : goodE Fs false = true) {y mo d h mi s : Int} (hd : DateOk y mo d) (hc : ClockOk h mi s) (n : Nat) (h0 : 1990 ≤ n) (h1 : n ≤ 2090) : DueC (B (textL Fs false ++ 32 :: decN n)) y mo d h mi s (fitB Fs y mo d h mi s && decide ((n : Int) = y)) true := by
 have hF := goodE_fs hE
 have M : Moment' (extOf y mo d h mi s) y mo d h mi s := ⟨hd, hc, rfl⟩
 have hg : ∀ q (hq : q < Fs.length), goodF q Fs[q] = true := fun q hq => hF.2 q hq
 have hst : starF (Fs.getD 3 []) = true ∨ starF (Fs.getD 5 []) = true := by
  obtain ⟨f0, f1, f2, f3, f4, f5, rfl, _, _, _, _, _, _, hr⟩ := goodE_spec hE
  unfold restE at hr
  simp only [Bool.and_eq_true, Bool.or_eq_true] at hr
  exact hr.1.2
 have ln := decN_length n 3 (by omega)
 have hlen : ((Fs.map fieldL) ++ [decN n]).length = 7 := by simp [hF.1]
 have hget : ∀ q (hq : q < Fs.length), ((Fs.map fieldL) ++ [decN n])[q]'(by simp; omega) = fieldL Fs[q] := fun q hq => by
  rw [List.getElem_append_left (by simpa using hq), List.getElem_map]
 have hlast : ((Fs.map fieldL) ++ [decN n])[6]'(by omega) = decN n := by
  rw [List.getElem_append_right (by simp [hF.1])]; simp [hF.1]
 have hfit : (fitB Fs y mo d h mi s && decide ((n : Int) = y)) = (List.range ((Fs.map fieldL) ++ [decN n]).length).all fun q => if q = 6 then decide ((n : Int) = y) else hasF q (Fs.getD q []) (posV y mo d h mi s q) := by
  rw [hlen]
  simp [fitB, List.range_succ, Bool.and_assoc]
 rw [hfit]
 refine due_segs hd hc _ ((Fs.map fieldL) ++ [decN n]) (year_segs hE n h0 h1) (by omega) (by omega) (fun p hp => ?_) _ (fun q hq => ?_) ?_
 ·rcases List.mem_append.1 hp with e | e
  ·obtain ⟨f, hf, rfl⟩ := List.mem_map.1 e
   obtain ⟨q, hq, rfl⟩ := List.mem_iff_getElem.1 hf
   have := fieldL_length (hg q hq)
   omega
  ·obtain rfl := List.mem_singleton.1 e
   omega
 ·by_cases e6 : q = 6
  ·subst e6
   rw [hlast, if_pos rfl]
   refine .inr ⟨by simpa using dec_ne' n [] 42 [] (by decide), by simpa using dec_ne' n [] 63 [] (by decide), segA_text M 6 (by decide) (decN n) (by omega) (dec_no n 44 (by decide)) (fun b hb => ⟨fun e => dec_no n 76 (by decide) (e ▸ hb), fun e => dec_no n 87 (by decide) (e ▸ hb), fun e => dec_no n 35 (by decide) (e ▸ hb)⟩) _ (fun c => offC_year c n h0 h1 _ ?_)⟩
   show y ≠ 0
   have := hd.y0
   omega
  ·have hqF : q < Fs.length := by have h6 := hF.1; have h7 := hlen; omega
   have hq6 : q < 6 := by rw [← hF.1]; exact hqF
   rw [hget q hqF, if_neg e6, show Fs.getD q [] = Fs[q] by simp [List.getD, hqF]]
   obtain ⟨v0, v1⟩ := posV_range hd hc q hq6
   by_cases e : fieldL Fs[q] = [42]
   ·exact .inl ⟨.inl e, star_has (field_star (hg q hqF) e) _ v0 v1⟩
   ·exact .inr ⟨e, field_no63 (hg q hqF), segA_field M q hq6 _ (hg q hqF)⟩
 ·have hq3 : (3 : Nat) < Fs.length := by rw [hF.1]; decide
  have hq5 : (5 : Nat) < Fs.length := by rw [hF.1]; decide
  rcases hst with e | e
  ·refine .inr (.inr (.inl ?_))
   rw [hget 3 hq3, show Fs[3] = Fs.getD 3 [] by simp [List.getD, hq3]]
   exact (star_field e).1
  ·refine .inl ?_
   rw [hget 5 hq5, show Fs[5] = Fs.getD 5 [] by simp [List.getD, hq5]]
   exact (star_field e).1
end Go.Proofs.YtemgofomhjabpaaGreatDoor.Core
namespace Go.Proofs.YtemgofomhjabpaaGreatDoor.Core
open Go.RowKit Go.Proofs.YtemgofomhjabpaaGreatDoorW.PrintWords
theorem textL_length {Fs : List (List It)} (hF : GoodFs Fs) (secs : Bool) : (textL Fs secs).length ≤ 330 := by
 have h := joinL_length 32 ((written Fs secs).map fieldL) 54 (fun x hx => by
  obtain ⟨f, hf, rfl⟩ := List.mem_map.1 hx
  have hf' : f ∈ Fs := by
   unfold written at hf
   split at hf
   ·exact hf
   ·exact List.mem_of_mem_drop hf
  obtain ⟨j, hj, e⟩ := List.mem_iff_getElem.1 hf'
  have := fieldL_length (hF.2 j hj)
  rw [e] at this
  exact this)
 have hl : ((written Fs secs).map fieldL).length ≤ 6 := by
  rw [List.length_map]
  unfold written
  split
  ·rw [hF.1]; exact Nat.le_refl _
  ·rw [List.length_drop, hF.1]; decide
 unfold textL
 omega
theorem fnYear_pure (raw : List (List Ro)) (secs : Bool) (year y mo d h mi s : Int) : ∃ k, laws_FnYear.f k raw secs year y mo d h mi s = some true := by
 refine Ev.rounds (g := fun k => laws_FnYear.f k raw secs year y mo d h mi s) ?_
 have hT : ∀ Fs sc, Ev (fun k => laws_FnYear.j0 k year true y mo d h mi s Fs sc) true := fun Fs sc => Ev.done fun k => by simp only [laws_FnYear.j0]; rw [if_pos trivial]
 unfold laws_FnYear.f
 refine Ev.bind (fits1_ev raw secs) ?_
 cases hf : fitsB raw with
 | false => exact Ev.congr (fun k => if_neg (by simp)) (Ev.now true)
 | true =>
  refine Ev.congr (fun k => if_pos rfl) (Ev.bind (expr_ev raw secs hf) (Ev.bind (asked_ev (cvs raw) secs (cvs_len hf) y mo d h mi s) ?_))
  cases hg : goodE (cvs raw) secs && goodM y mo d h mi s with
  | false => exact Ev.congr (fun k => if_neg (by simp)) (hT _ _)
  | true =>
   simp only [Bool.and_eq_true] at hg
   obtain ⟨hE, hM⟩ := hg
   obtain ⟨hd, hc⟩ := goodM_spec hM
   refine Ev.congr (fun k => if_pos rfl) ?_
   cases secs with
   | true => exact Ev.congr (fun k => if_pos rfl) (hT _ _)
   | false =>
    refine Ev.congr (fun k => if_neg (by simp)) ?_
    by_cases h1 : year < 1990
    ·exact Ev.congr (fun k => if_pos h1) (hT _ _)
    refine Ev.congr (fun k => if_neg h1) ?_
    by_cases h2 : year > 2090
    ·rw [decide_eq_true h2]; exact hT _ _
    rw [decide_eq_false h2]
    generalize cvs raw = Fs at hE
    have hF := goodE_fs hE
    obtain ⟨n, rfl⟩ : ∃ n : Nat, year = n := ⟨year.toNat, by omega⟩
    have hdue := (due_year hE hd hc n (by omega) (by omega)).eq
    have hparts := parts_ev (year_segs hE n (by omega) (by omega))
    have hl := textL_length hF false
    have ln := decN_length n 3 (by omega)
    have hdec := dec_ev (n : Int) (by omega) (by omega)
    rw [Int.toNat_natCast] at hdec
    have htext := text_ev Fs false hF
    have s1 : (B (textL Fs false)).size + 1 ≤ 9223372036854775807 := by rw [B_size]; omega
    have s2 : (B (textL Fs false) ++ (⟨#[32]⟩ : ByteArray)).size + (B (decN n)).size ≤ 9223372036854775807 := by rw [ByteArray.size_append, B_size, B_size, show (⟨#[32]⟩ : ByteArray).size = 1 from rfl]; omega
    have tx : (B (textL Fs false) ++ (⟨#[32]⟩ : ByteArray)) ++ B (decN n) = B (textL Fs false ++ 32 :: decN n) := by rw [show (⟨#[32]⟩ : ByteArray) = B [32] from rfl, B_app, B_app]; simp
    have hlen : (((Fs.map fieldL) ++ [decN n]).map B).length = 7 := by simp [hF.1]
    have hl7 : ((Fs.map fieldL) ++ [decN n]).length = 7 := by simp [hF.1]
    have hrd : rdOf ByteArray.empty (((Fs.map fieldL) ++ [decN n]).map B) 6 = B (decN n) := by
     have h6 : ((Fs.map fieldL) ++ [decN n])[6]'(by omega) = decN n := by
      rw [List.getElem_append_right (by simp [hF.1])]; simp [hF.1]
     have := rdOf_map ((Fs.map fieldL) ++ [decN n]) 6 (by omega)
     rw [h6] at this
     exact this
    refine Ev.succ ?_
    simp only [laws_FnYear.j0, Bool.false_eq_true, if_false]
    refine Ev.bind htext (Ev.congr (fun k => if_pos s1) (Ev.bind hdec (Ev.congr (fun k => if_pos s2) ?_)))
    rw [tx]
    simp only [hdue, Option.bind_some]
    refine Ev.bind htext (Ev.congr (fun k => if_pos s1) (Ev.bind hdec (Ev.congr (fun k => if_pos s2) ?_)))
    rw [tx]
    refine Ev.bind hparts ?_
    have c7 : ((((Fs.map fieldL) ++ [decN n]).map B).length : Int) = 7 := by rw [hlen]; rfl
    have c6 : (6 : Int) < ((((Fs.map fieldL) ++ [decN n]).map B).length : Int) := by rw [hlen]; decide
    have cr : (rdOf ByteArray.empty (((Fs.map fieldL) ++ [decN n]).map B) 6).toList = (B (decN n)).toList := by rw [hrd]
    refine Ev.congr (fun k => if_pos trivial) (Ev.congr (fun k => if_pos rfl) (Ev.congr (fun k => if_pos c7) (Ev.congr (fun k => if_pos c6) (Ev.bind hdec (Ev.congr (fun k => if_pos cr) ?_)))))
    by_cases hy : y = (n : Int)
    ·refine Ev.congr (fun k => if_pos hy) ?_
     simp only [laws_moment.f, Option.bind_some]
     refine Ev.bind (fitsE_ev hE hd hc) (Ev.const ?_)
     rw [decide_eq_true hy.symm]
     simp
    ·refine Ev.congr (fun k => if_neg hy) (Ev.const ?_)
     rw [decide_eq_false (fun e => hy e.symm)]
     simp
end Go.Proofs.YtemgofomhjabpaaGreatDoor.Core
namespace Go.Proofs.YtemgofomhjabpaaGreatDoor.Core
open Go.RowKit Go.Proofs.YtemgofomhjabpaaGreatDoorW.PrintWords Go.ChangeShapes Go.WideShapes Go.Deep
set_option maxRecDepth 100000
theorem rows_list {α : Type} {Q : Nat → α → Prop} (n : Nat) (h : ∀ i, i < n → ∃ x, Q i x) : ∃ l : List α, l.length = n ∧ ∀ j p, l[j]? = some p → Q j p := by
 induction n with
 | zero => exact ⟨[], rfl, fun j p hj => by simp at hj⟩
 | succ n ih =>
  obtain ⟨l, hl, hq⟩ := ih (fun i hi => h i (by omega))
  obtain ⟨x, hx⟩ := h n (by omega)
  refine ⟨l ++ [x], by simp [hl], fun j p hj => ?_⟩
  rcases Nat.lt_or_ge j l.length with h1 | h1
  ·rw [List.getElem?_append_left h1] at hj
   exact hq j p hj
  ·rw [List.getElem?_append_right h1] at hj
   have h2 : j - l.length = 0 := by
    rcases Nat.eq_zero_or_pos (j - l.length) with h3 | h3
    ·exact h3
    ·rw [List.getElem?_eq_none (by simp; omega)] at hj; cases hj
   rw [h2] at hj
   obtain rfl : x = p := by simpa using hj
   obtain rfl : j = n := by omega
   exact hx
section
variable {H : Type} {enc : TypeId × Value → H} {P : Program} {W : World} {spare : Nat → Bool} {held : Bool}
theorem C_of_trod {α : Type} (d : Kd α) {t e : TypeId} (ht : P.underlying t = some (.slice e)) (hC : P.cellsOf e = d.sz)
  (rd : ∀ (n : Nat) (cs : List Value) y, cs.length = P.cellsOf e → DataW.trod enc P W 0 spare held n e cs = some y → ∃ x, d.K W x cs)
  {n : Nat} {va : Value} {y : DataW H × List MemPlace} (h : DataW.trod enc P W 0 spare held n t [va] = some y) :
  ∃ (A : Option Addr) (c : Nat) (l : List α), va = .slice A l.length c ∧ l.length ≤ c ∧ Kd.C d W A l.length l := by
 rcases open_slice ht h with ⟨h0, _⟩ | ⟨a, len, cap, m, n', D, Pl, hcs, _, hl, hm, hmm, _, hi⟩
 ·obtain rfl : va = .slice none 0 0 := by simpa using h0
  exact ⟨none, 0, [], rfl, Nat.le_refl _, rfl, by simp, fun h => absurd h (by simp)⟩
 ·obtain rfl : va = .slice (some a) len cap := by simpa using hcs
  have hlm : len ≤ m := by rw [hmm]; split <;> omega
  obtain ⟨l, hll, hq⟩ := rows_list (Q := fun i x => ∃ c, c.length = d.sz ∧ d.K W x c ∧ ∀ j u, c[j]? = some u → W.cell? (a.add (i * d.sz + j)) = some u) len (fun i hi' => by
   obtain ⟨cs', hc, htr⟩ := hi i (by omega)
   obtain ⟨_, hcl, hat⟩ := World.cells?_some hc
   obtain ⟨x, hx⟩ := rd _ _ _ hcl htr
   refine ⟨x, cs', by rw [hcl, hC], hx, fun j u hu => ?_⟩
   have hj : j < cs'.length := (List.getElem?_eq_some_iff.1 hu).1
   have := hat j (by omega)
   rw [Go.Deep.add_add, hC] at this
   rw [this, hu])
  subst hll
  refine ⟨some a, cap, l, rfl, hl, rfl, ?_, fun _ => ⟨a, rfl, fun j p hj => hq j p hj⟩⟩
  unfold maxLen at hm
  omega
end
section
variable {H : Type} {enc : TypeId × Value → H} {W : World} {spare : Nat → Bool} {held : Bool}
theorem cells_item : Tryz.prog.cellsOf 69 = 4 := by kernel_rfl
theorem read_item (n : Nat) (cs : List Value) (y : DataW H × List MemPlace) (hl : cs.length = Tryz.prog.cellsOf 69) (h : DataW.trod enc Tryz.prog W 0 spare held n 69 cs = some y) : ∃ x, k69.K W x cs := by
 rw [cells_item] at hl
 obtain ⟨y0, y1, y2, y3, m, _, _, h0, h1, h2, h3⟩ := Go.Joins.trod_struct4 Tryz.underlying69 h
 match cs, hl with
 | [c0, c1, c2, c3], _ =>
  rw [show Tryz.prog.cellsOf 4 = 1 by kernel_rfl] at h0
  rw [show Tryz.prog.cellsOf 3 = 1 by kernel_rfl] at h1 h2 h3
  obtain ⟨b, hb, _⟩ := DataW.trod_bool Tryz.underlying4 h0
  obtain ⟨i1, e1, _⟩ := DataW.trod_int Tryz.underlying3 h1
  obtain ⟨i2, e2, _⟩ := DataW.trod_int Tryz.underlying3 h2
  obtain ⟨i3, e3, _⟩ := DataW.trod_int Tryz.underlying3 h3
  obtain rfl : c0 = .bool b := by simpa using hb
  obtain rfl : c1 = .int .i64 i1 := by simpa using e1
  obtain rfl : c2 = .int .i64 i2 := by simpa using e2
  obtain rfl : c3 = .int .i64 i3 := by simpa using e3
  exact ⟨⟨b, i1, i2, i3⟩, k69_mk W ⟨b, i1, i2, i3⟩⟩
theorem read_items (n : Nat) (cs : List Value) (y : DataW H × List MemPlace) (hl : cs.length = Tryz.prog.cellsOf 68) (h : DataW.trod enc Tryz.prog W 0 spare held n 68 cs = some y) : ∃ x, (Kd.slice 69 k69).K W x cs := by
 rw [show Tryz.prog.cellsOf 68 = 1 by kernel_rfl] at hl
 match cs, hl with
 | [c], _ =>
  obtain ⟨A, cap, l, rfl, hlc, hC⟩ := C_of_trod k69 Tryz.underlying68 cells_item read_item h
  exact ⟨l, A, cap, rfl, hlc, hC⟩
theorem read_fields {n : Nat} {va : Value} {y : DataW H × List MemPlace} (h : DataW.trod enc Tryz.prog W 0 spare held n 22 [va] = some y) :
  ∃ (A : Option Addr) (c : Nat) (l : List (List S69)), va = .slice A l.length c ∧ l.length ≤ c ∧ Kd.C (Kd.slice 69 k69) W A l.length l :=
 C_of_trod (Kd.slice 69 k69) Tryz.underlying22 (by kernel_rfl) read_items h
theorem read_expr {v : Value} {d : DataW H} {p : List MemPlace} {r : Reach} {b0 : Nat} (hv : Value.okWide Tryz.prog W r b0 24 v) (h : DataW.Trod enc Tryz.prog W 0 spare held 24 v d p) :
  ∃ (A : Option Addr) (c : Nat) (l : List (List S69)) (b : Bool), v = .agg #[.slice A l.length c, .bool b] ∧ l.length ≤ c ∧ Kd.C (Kd.slice 69 k69) W A l.length l := by
 obtain ⟨cs, rfl, hsz⟩ := okWide_struct Tryz.underlying24 hv
 obtain ⟨cs⟩ := cs
 obtain ⟨fuel, hf⟩ := h
 have hl : cs.length = 2 := hsz.trans (by kernel_rfl)
 obtain ⟨y0, y1, m, _, _, h0, h1⟩ := trod_struct2 Tryz.underlying24 hf
 match cs, hl with
 | [c0, c1], _ =>
  rw [show Tryz.prog.cellsOf 22 = 1 by kernel_rfl] at h0
  rw [show Tryz.prog.cellsOf 4 = 1 by kernel_rfl] at h1
  obtain ⟨A, cap, l, e, hlc, hC⟩ := read_fields (va := c0) (by simpa [Value.cells] using h0)
  obtain ⟨b, hb, _⟩ := DataW.trod_bool Tryz.underlying4 h1
  obtain rfl : c1 = .bool b := by simpa [Value.cells] using hb
  subst e
  exact ⟨A, cap, l, b, rfl, hlc, hC⟩
end
end Go.Proofs.YtemgofomhjabpaaGreatDoor.Core
namespace Go.Proofs.YtemgofomhjabpaaGreatDoor.Core
open Go.RowKit Go.Proofs.YtemgofomhjabpaaGreatDoorW.PrintWords Go.ChangeShapes Go.WideShapes Go.Deep
set_option maxRecDepth 100000
section
variable {H : Type} {enc : TypeId × Value → H} {P : Program} {w : World} {base : Nat} {spare : Nat → Bool} {held : Bool}
theorem list6 {α : Type} {l : List α} (h : l.length = 6) : ∃ c0 c1 c2 c3 c4 c5, l = [c0, c1, c2, c3, c4, c5] := by
 match l, h with
 | [c0, c1, c2, c3, c4, c5], _ => exact ⟨c0, c1, c2, c3, c4, c5, rfl⟩
theorem trod_struct6 {t : TypeId} {f0 f1 f2 f3 f4 f5 : Field} {fuel : Nat} {cs : List Value} {x : DataW H × List MemPlace} (ht : P.underlying t = some (.struct #[f0, f1, f2, f3, f4, f5])) (h : DataW.trod enc P w base spare held fuel t cs = some x) :
  ∃ y0 y1 y2 y3 y4 y5 n, DataW.trod enc P w base spare held n f0.type ((cs.drop f0.offset).take (P.cellsOf f0.type)) = some y0 ∧ DataW.trod enc P w base spare held n f1.type ((cs.drop f1.offset).take (P.cellsOf f1.type)) = some y1 ∧ DataW.trod enc P w base spare held n f2.type ((cs.drop f2.offset).take (P.cellsOf f2.type)) = some y2 ∧
   DataW.trod enc P w base spare held n f3.type ((cs.drop f3.offset).take (P.cellsOf f3.type)) = some y3 ∧ DataW.trod enc P w base spare held n f4.type ((cs.drop f4.offset).take (P.cellsOf f4.type)) = some y4 ∧ DataW.trod enc P w base spare held n f5.type ((cs.drop f5.offset).take (P.cellsOf f5.type)) = some y5 := by
 obtain ⟨xs, n, _, rfl, hl, hlen, hf⟩ := DataW.trod_struct ht h
 obtain ⟨y0, y1, y2, y3, y4, y5, rfl⟩ := list6 (show xs.length = 6 from hlen)
 exact ⟨y0, y1, y2, y3, y4, y5, n, by simpa using hf 0 f0 rfl, by simpa using hf 1 f1 rfl, by simpa using hf 2 f2 rfl, by simpa using hf 3 f3 rfl, by simpa using hf 4 f4 rfl, by simpa using hf 5 f5 rfl⟩
end
section
variable {H : Type} {enc : TypeId × Value → H} {W : World} {spare : Nat → Bool} {held : Bool}
theorem read_moment {v : Value} {d : DataW H} {p : List MemPlace} {r : Reach} {b0 : Nat} (hv : Value.okWide Tryz.prog W r b0 26 v) (h : DataW.Trod enc Tryz.prog W 0 spare held 26 v d p) :
  ∃ y mo d h mi s : Int, v = .agg #[.int .i64 y, .int .i64 mo, .int .i64 d, .int .i64 h, .int .i64 mi, .int .i64 s] := by
 obtain ⟨cs, rfl, hsz⟩ := okWide_struct Tryz.underlying26 hv
 obtain ⟨cs⟩ := cs
 obtain ⟨fuel, hf⟩ := h
 have hl : cs.length = 6 := hsz.trans (by kernel_rfl)
 obtain ⟨y0, y1, y2, y3, y4, y5, m, h0, h1, h2, h3, h4, h5⟩ := trod_struct6 Tryz.underlying26 hf
 obtain ⟨c0, c1, c2, c3, c4, c5, rfl⟩ := list6 hl
 rw [show Tryz.prog.cellsOf 3 = 1 by kernel_rfl] at h0 h1 h2 h3 h4 h5
 obtain ⟨i0, e0, _⟩ := DataW.trod_int Tryz.underlying3 h0
 obtain ⟨i1, e1, _⟩ := DataW.trod_int Tryz.underlying3 h1
 obtain ⟨i2, e2, _⟩ := DataW.trod_int Tryz.underlying3 h2
 obtain ⟨i3, e3, _⟩ := DataW.trod_int Tryz.underlying3 h3
 obtain ⟨i4, e4, _⟩ := DataW.trod_int Tryz.underlying3 h4
 obtain ⟨i5, e5, _⟩ := DataW.trod_int Tryz.underlying3 h5
 obtain rfl : c0 = .int .i64 i0 := by simpa [Value.cells] using e0
 obtain rfl : c1 = .int .i64 i1 := by simpa [Value.cells] using e1
 obtain rfl : c2 = .int .i64 i2 := by simpa [Value.cells] using e2
 obtain rfl : c3 = .int .i64 i3 := by simpa [Value.cells] using e3
 obtain rfl : c4 = .int .i64 i4 := by simpa [Value.cells] using e4
 obtain rfl : c5 = .int .i64 i5 := by simpa [Value.cells] using e5
 exact ⟨i0, i1, i2, i3, i4, i5, rfl⟩
theorem read_int {v : Value} {d : DataW H} {p : List MemPlace} {r : Reach} {b0 : Nat} (hv : Value.okWide Tryz.prog W r b0 3 v) (h : DataW.Trod enc Tryz.prog W 0 spare held 3 v d p) :
  ∃ n : Int, v = .int .i64 n ∧ True := by
 obtain ⟨a, rfl, _⟩ := open_int Tryz.underlying3 hv h
 exact ⟨a, rfl, trivial⟩
end
end Go.Proofs.YtemgofomhjabpaaGreatDoor.Core
namespace Go.Proofs.YtemgofomhjabpaaGreatDoor.FnYearRow
open Go.ChangeShapes Go.WideShapes Go.ChangeAt Go.RowKit Go.Proofs.YtemgofomhjabpaaGreatDoorW.PrintWords Go.Proofs.YtemgofomhjabpaaGreatDoor.Core
theorem own : ownKnob Tryz.prog.godebug = none := by kernel_rfl
theorem laidOut : laidOutB Tryz.prog = true := by kernel_rfl
set_option maxRecDepth 100000 in
theorem lifted (os : Os) (started : os.Started) (H : Type) (enc : TypeId × Value → H) :
  ReturnsInHanded {} Tryz.checked os 9 .any (fun w args => (Rows.fnYearSpec.pre enc Tryz.prog Tryz.f9 Rows.fnYearRow.domain false w args ∧ laidMetH Tryz.prog Rows.fnYearRow.laid w) ∧ sizedMet enc Tryz.prog Tryz.f9 (OpenSpec.ofChange Rows.fnYearSpec) false w args)
   (Rows.fnYearSpec.post enc Tryz.prog Tryz.f9 false true false false) := by
 refine returnsInHanded_of_change_and (C := Tryz.checked) (X := fun w _ => laidMetH Tryz.prog Rows.fnYearRow.laid w) (fun _ _ _ hh h => h.of_heap hh) own started (by kernel_rfl) Tryz.func9
  (ChangeSpec.witness_shaped (enc := enc) (C := Tryz.checked) (os := os) (X := fun w _ => laidMetH Tryz.prog Rows.fnYearRow.laid w) false (World.laidAll Tryz.prog os Rows.fnYearRow.laid) #[.agg #[.slice none 0 0, .bool false], .int .i64 0, .agg #[.int .i64 0, .int .i64 0, .int .i64 0, .int .i64 0, .int .i64 0, .int .i64 0]] 8 (World.laidAll_os _ _ _)
   (World.shaped_of_ZipB (by kernel_rfl) (by kernel_rfl)) (by kernel_rfl) (by kernel_rfl) (by kernel_rfl)
   (by rw [MakeChecks.laidMetH_plain _ _ _ (by kernel_rfl)]; exact laidMet_laidAll _ (by kernel_rfl) (by kernel_rfl))) ?_
 intro W base args ds gs before hval0 hW _ _ _ _
 have hval : ∀ (j : Nat) t v, Tryz.f9.params[j]? = some t → args[j]? = some v → Value.okWide Tryz.prog W .any base t v := hval0
 have hW' := hW
 obtain ⟨p, q, hA0, hV, rfl, _, _⟩ := hW
 have hA : DataW.TrodAll enc Tryz.prog W 0 (fun _ => true) true Tryz.f9.params.toList args.toList ds p := hA0
 rw [Tryz.params9] at hA hval
 obtain ⟨v0, vs0, d0, ds0, p0, q0, hargs, rfl, rfl, h0, r0⟩ := trodAll_cons hA
 obtain ⟨v1, vs1, d1, ds1, p1, q1, rfl, rfl, rfl, h1, r1⟩ := trodAll_cons r0
 obtain ⟨v2, vs2, d2, ds2, p2, q2, rfl, rfl, rfl, h2, r2⟩ := trodAll_cons r1
 obtain ⟨rfl, rfl, rfl⟩ := trodAll_nil r2
 obtain rfl : args = #[v0, v1, v2] := by cases args; simp_all
 obtain ⟨rfl, rfl⟩ := trodVars_none hV
 obtain ⟨A0, c0, l0, b0, rfl, hl0, hC0⟩ := read_expr (hval 0 24 v0 rfl rfl) h0
 obtain ⟨n1, rfl, _⟩ := read_int (hval 1 3 v1 rfl rfl) h1
 obtain ⟨y2, mo2, d'2, hh2, mi2, s2, rfl⟩ := read_moment (hval 2 26 v2 rfl rfl) h2
 have lt0 : ∀ x ∈ p0, x.block < W.heap.size := fun x hx => hW'.lt x (by simp [hx])
 have lt1 : ∀ x ∈ p1, x.block < W.heap.size := fun x hx => hW'.lt x (by simp [hx])
 have lt2 : ∀ x ∈ p2, x.block < W.heap.size := fun x hx => hW'.lt x (by simp [hx])
 clear hA0 hval0
 obtain ⟨k, hk⟩ := fnYear_pure l0 b0 n1 y2 mo2 d'2 hh2 mi2 s2
 refine (laws_FnYear.calls k A0 c0 l0 b0 n1 y2 mo2 d'2 hh2 mi2 s2 true W hC0 hl0  ⟨rfl⟩ hk).mono fun e W' ⟨he, bel⟩ => ?_
 subst he
 exact ⟨_, rfl, _, _, _, [], _, [], hW', trodAll_mk1 (shut_bool Tryz.underlying4 _), (trodAll_cons_mk (Below.trod laidOut (by kernel_rfl) (of_decide_eq_true (by kernel_rfl)) h0 bel lt0) (trodAll_cons_mk (Below.trod laidOut (by kernel_rfl) (of_decide_eq_true (by kernel_rfl)) h1 bel lt1) (trodAll_cons_mk (Below.trod laidOut (by kernel_rfl) (of_decide_eq_true (by kernel_rfl)) h2 bel lt2) trodAll_mk0))), rfl, bel.frame _, fun h => by cases h⟩
theorem said : Rows.FnYearSaid :=
 OpenClaim.holds_of_wide 9 Tryz.f9 rfl rfl rfl rfl rfl rfl rfl ⟨rfl, rfl, rfl, rfl, rfl⟩ rfl rfl rfl rfl rfl (by kernel_rfl) Tryz.func9 (by kernel_rfl)
  (of_decide_eq_true (by kernel_rfl)) (by unfold Func.isWrapper; first | (rw [if_pos (by decide +kernel)]; kernel_rfl) | (rw [if_neg (by decide +kernel)]; exact ⟨rfl, rfl⟩))
  (fun os started H enc _ => lifted os started H enc)
theorem plain (f : FuncId) (fn : Func) (hf : Tryz.pinned.checked.prog.funcNamed Rows.fnYearRow.func = some f) (hfn : Tryz.pinned.checked.prog.funcs[f]? = some fn) :
  true = Tryz.pinned.checked.prog.looks [] ∧ ∀ (j : Nat) t, fn.params[j]? = some t → Tryz.pinned.checked.prog.wantsStandIn t = false := by
 obtain rfl : f = 9 := Option.some.inj ((show Tryz.prog.funcNamed Rows.fnYearRow.func = some 9 by kernel_rfl).symm.trans hf) |>.symm
 obtain rfl : fn = Tryz.f9 := (Option.some.inj (Tryz.func9.symm.trans hfn)).symm
 refine ⟨by kernel_rfl, fun j t ht => ?_⟩
 rw [Tryz.params9] at ht
 have hm : t ∈ [24, 3, 26] := by simpa using Array.mem_of_getElem? ht
 have hall : ([24, 3, 26].all fun u => !Tryz.prog.wantsStandIn u) = true := by kernel_rfl
 exact (show Tryz.prog.wantsStandIn t = false by simpa using List.all_eq_true.1 hall t hm)
theorem card : Rows.FnYearCardSaid :=
 Claim7.holds_tied_plain_at .later [] _ _ _ _ said (fun _ h => by cases h) (by kernel_rfl) (fun _ h => by cases h) fnYear_row_tie rfl ⟨rfl, rfl⟩ (by kernel_rfl) rfl plain (by kernel_rfl)
#print axioms card
end Go.Proofs.YtemgofomhjabpaaGreatDoor.FnYearRow
namespace Go.Proofs.YtemgofomhjabpaaGreatDoor
theorem fnYear_holds : Rows.FnYearCardSaid := FnYearRow.card
end Go.Proofs.YtemgofomhjabpaaGreatDoor
