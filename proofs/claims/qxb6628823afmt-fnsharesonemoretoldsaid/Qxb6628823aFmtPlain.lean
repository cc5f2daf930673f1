/- The plain part: what Shares computes, with no Go in sight. -/
import Derived.WalkKit
namespace Go.Proofs.Qxb6628823aFmt

/-- How many of the first n members may be picked. -/
def cnt (B : Nat → Bool) : Nat → Nat
  | 0 => 0
  | n + 1 => cnt B n + (if B n = true then 1 else 0)

theorem cnt_le (B : Nat → Bool) (n : Nat) : cnt B n ≤ n := by
  induction n with
  | zero => simp [cnt]
  | succ n ih => simp only [cnt]; split <;> omega

theorem cnt_yes {B : Nat → Bool} {k : Nat} (h : B k = true) : cnt B (k + 1) = cnt B k + 1 := by simp [cnt, h]
theorem cnt_no {B : Nat → Bool} {k : Nat} (h : B k = false) : cnt B (k + 1) = cnt B k := by simp [cnt, h]

theorem cnt_mono (B : Nat → Bool) {i j : Nat} (h : i ≤ j) : cnt B i ≤ cnt B j := by
  induction j with
  | zero => have : i = 0 := by omega
            subst this; exact Nat.le_refl _
  | succ j ih =>
    by_cases e : i = j + 1
    · subst e; exact Nat.le_refl _
    · have := ih (by omega)
      simp only [cnt]; omega

theorem cnt_lt {B : Nat → Bool} {i j : Nat} (h : i < j) (hb : B i = true) : cnt B i < cnt B j := by
  have h1 := cnt_mono B (show i + 1 ≤ j from h)
  rw [cnt_yes hb] at h1
  omega

/-- The share of member i: q is the quotient, r the rest. -/
def share (B : Nat → Bool) (q r : Int) (i : Nat) : Int :=
  if B i = true then (if (cnt B i : Int) < r then q + 1 else q) else 0

/-- What is left of the rest behind k members. -/
def left (r : Int) (c : Nat) : Int := if (c : Int) < r then r - c else 0

/-- The row of shares behind k members. -/
def rowK (B : Nat → Bool) (q r : Int) (k : Nat) : Nat → Value := fun j => if j < k then .int .i64 (share B q r j) else .int .i64 0

theorem rowK_zero (B : Nat → Bool) (q r : Int) (j : Nat) : Value.int .i64 0 = rowK B q r 0 j := by simp [rowK]

theorem rowK_no {B : Nat → Bool} (q r : Int) {k : Nat} (h : B k = false) (j : Nat) : rowK B q r k j = rowK B q r (k + 1) j := by
  unfold rowK
  by_cases h1 : j < k
  · rw [if_pos h1, if_pos (by omega)]
  · rw [if_neg h1]
    by_cases h2 : j = k
    · subst h2; rw [if_pos (by omega)]; simp [share, h]
    · rw [if_neg (by omega)]

theorem rowK_yes {B : Nat → Bool} (q r : Int) {k : Nat} (h : B k = true) (hr : ¬ (cnt B k : Int) < r) (j : Nat) :
    (if j = k then Value.int .i64 q else rowK B q r k j) = rowK B q r (k + 1) j := by
  unfold rowK
  by_cases h2 : j = k
  · subst h2; rw [if_pos rfl, if_pos (by omega)]; simp only [share, h, if_true, if_neg hr]
  · rw [if_neg h2]
    by_cases h1 : j < k
    · rw [if_pos h1, if_pos (by omega)]
    · rw [if_neg h1, if_neg (by omega)]

theorem rowK_more {B : Nat → Bool} (q r : Int) {k : Nat} (h : B k = true) (hr : (cnt B k : Int) < r) (j : Nat) :
    (if j = k then Value.int .i64 (q + 1) else if j = k then Value.int .i64 q else rowK B q r k j) = rowK B q r (k + 1) j := by
  unfold rowK
  by_cases h2 : j = k
  · subst h2; rw [if_pos rfl, if_pos (by omega)]; simp only [share, h, if_true, if_pos hr]
  · rw [if_neg h2, if_neg h2]
    by_cases h1 : j < k
    · rw [if_pos h1, if_pos (by omega)]
    · rw [if_neg h1, if_neg (by omega)]

/-- The sum of the shares of c picked members. -/
def sumS (q r : Int) (c : Nat) : Int := q * c + (if (c : Int) < r then (c : Int) else r)

theorem sumS_zero (q r : Int) (h : 0 ≤ r) : sumS q r 0 = 0 := by
  unfold sumS; split <;> simp <;> omega

theorem sumS_yes (q r : Int) (c : Nat) (h : (c : Int) < r) : sumS q r (c + 1) = sumS q r c + (q + 1) := by
  unfold sumS
  rw [if_pos h, show ((c + 1 : Nat) : Int) = (c : Int) + 1 by omega, Int.mul_add, Int.mul_one]
  by_cases h2 : (c : Int) + 1 < r
  · rw [if_pos h2]; omega
  · rw [if_neg h2]; omega

theorem sumS_no (q r : Int) (c : Nat) (h : ¬ (c : Int) < r) : sumS q r (c + 1) = sumS q r c + q := by
  unfold sumS
  rw [if_neg h, show ((c + 1 : Nat) : Int) = (c : Int) + 1 by omega, Int.mul_add, Int.mul_one, if_neg (by omega)]
  omega

theorem sumS_mono (q r : Int) (hq : 0 ≤ q) {c d : Nat} (h : c ≤ d) : sumS q r c ≤ sumS q r d := by
  induction d with
  | zero => have : c = 0 := by omega
            subst this; exact Int.le_refl _
  | succ d ih =>
    by_cases e : c = d + 1
    · subst e; exact Int.le_refl _
    · have := ih (by omega)
      by_cases h2 : (d : Int) < r
      · rw [sumS_yes q r d h2]; omega
      · rw [sumS_no q r d h2]; omega

/-- All shares together are the total. -/
theorem sumS_all (t : Int) (m : Nat) (hm : 0 < m) : sumS (t / m) (t % m) m = t := by
  unfold sumS
  have h1 : t % (m : Int) < m := Int.emod_lt_of_pos _ (by omega)
  rw [if_neg (by omega), Int.mul_comm]
  exact Int.mul_ediv_add_emod t m

/-- The last share given behind c picked members, which is the least of them. -/
def loS (q r : Int) (c : Nat) : Int := if c = 0 then 0 else if ((c - 1 : Nat) : Int) < r then q + 1 else q
/-- The first share given, which is the greatest. -/
def hiS (q r : Int) (c : Nat) : Int := if c = 0 then 0 else if 0 < r then q + 1 else q

theorem share_yes {B : Nat → Bool} (q r : Int) {k : Nat} (h : B k = true) : share B q r k = if (cnt B k : Int) < r then q + 1 else q := by simp [share, h]

theorem sumS_share {B : Nat → Bool} (q r : Int) {k : Nat} (h : B k = true) : sumS q r (cnt B k + 1) = sumS q r (cnt B k) + share B q r k := by
  rw [share_yes q r h]
  by_cases h2 : (cnt B k : Int) < r
  · rw [if_pos h2, sumS_yes q r _ h2]
  · rw [if_neg h2, sumS_no q r _ h2]

theorem sumS_nonneg (q r : Int) (hq : 0 ≤ q) (hr : 0 ≤ r) (c : Nat) : 0 ≤ sumS q r c := by
  have h := sumS_mono q r hq (Nat.zero_le c)
  rw [sumS_zero q r hr] at h
  exact h

theorem loS_share {B : Nat → Bool} (q r : Int) {k : Nat} (h : B k = true) : loS q r (cnt B k + 1) = share B q r k := by
  rw [share_yes q r h]
  simp [loS]

theorem hiS_first {B : Nat → Bool} (q r : Int) {k : Nat} (h : B k = true) (hc : cnt B k = 0) : hiS q r (cnt B k + 1) = share B q r k := by
  rw [share_yes q r h, hc]
  simp [hiS]

theorem hiS_next (q r : Int) {c : Nat} (hc : c ≠ 0) : hiS q r (c + 1) = hiS q r c := by
  simp [hiS, hc]

theorem share_le {B : Nat → Bool} (q r : Int) {k : Nat} (h : B k = true) (hc : cnt B k ≠ 0) : share B q r k ≤ loS q r (cnt B k) ∧ share B q r k ≤ hiS q r (cnt B k) := by
  rw [share_yes q r h]
  unfold loS hiS
  rw [if_neg hc, if_neg hc]
  constructor
  · split <;> split <;> omega
  · split <;> split <;> omega

theorem lohi (q r : Int) (hq : 0 ≤ q) (c : Nat) : 0 ≤ loS q r c ∧ 0 ≤ hiS q r c ∧ hiS q r c - loS q r c ≤ 1 ∧ loS q r c ≤ q + 1 ∧ hiS q r c ≤ q + 1 ∧ loS q r c ≤ hiS q r c := by
  unfold loS hiS
  by_cases hc : c = 0
  · rw [if_pos hc, if_pos hc]; omega
  · rw [if_neg hc, if_neg hc]
    split <;> split <;> omega

theorem share_nonneg (B : Nat → Bool) (q r : Int) (hq : 0 ≤ q) (k : Nat) : 0 ≤ share B q r k := by
  unfold share
  split
  · split <;> omega
  · omega
end Go.Proofs.Qxb6628823aFmt
