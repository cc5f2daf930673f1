/- The plain law of one connection more. -/
import Derived.Test.Qxb6628823aFmtPlain
namespace Go.Proofs.Qxb6628823aFmt

theorem divmod_step (t : Int) (m : Nat) (hm : 0 < m) :
    (t % m + 1 < m ∧ (t + 1) / (m : Int) = t / m ∧ (t + 1) % (m : Int) = t % m + 1) ∨
    (t % m + 1 = m ∧ (t + 1) / (m : Int) = t / m + 1 ∧ (t + 1) % (m : Int) = 0) := by
  have h1 : t % (m : Int) < m := Int.emod_lt_of_pos _ (by omega)
  have h0 : 0 ≤ t % (m : Int) := Int.emod_nonneg _ (by omega)
  have e := Int.mul_ediv_add_emod t m
  by_cases h : t % (m : Int) + 1 < m
  · left
    refine ⟨h, ?_⟩
    have hs : t + 1 = (t % (m : Int) + 1) + m * (t / m) := by omega
    constructor
    · rw [hs, Int.add_mul_ediv_left _ _ (by omega), Int.ediv_eq_zero_of_lt (by omega) h]; omega
    · rw [hs, Int.add_mul_emod_self_left, Int.emod_eq_of_lt (by omega) h]
  · right
    have hm2 : t % (m : Int) + 1 = m := by omega
    refine ⟨hm2, ?_⟩
    have hs : t + 1 = m * (t / m + 1) := by rw [Int.mul_add]; omega
    constructor
    · rw [hs, Int.mul_ediv_cancel_left _ (by omega)]
    · rw [hs, Int.mul_emod_right]

theorem cnt_inj {B : Nat → Bool} {i j : Nat} (hi : B i = true) (hj : B j = true) (h : cnt B i = cnt B j) : i = j := by
  rcases Nat.lt_trichotomy i j with h1 | h1 | h1
  · have := cnt_lt h1 hi; omega
  · exact h1
  · have := cnt_lt h1 hj; omega

/-- The member of rank t mod m gains one. -/
theorem more_here {B : Nat → Bool} (t : Int) {n j : Nat} (hj : B j = true) (hn : j < n) (hr : (cnt B j : Int) = t % cnt B n) :
    share B ((t + 1) / cnt B n) ((t + 1) % cnt B n) j = share B (t / cnt B n) (t % cnt B n) j + 1 := by
  have hm : 0 < cnt B n := by have := cnt_lt hn hj; omega
  rw [share_yes _ _ hj, share_yes _ _ hj, if_neg (show ¬ (cnt B j : Int) < t % cnt B n by omega)]
  rcases divmod_step t (cnt B n) hm with ⟨_, e1, e2⟩ | ⟨_, e1, e2⟩
  · rw [e1, e2, if_pos (by omega)]
  · rw [e1, e2, if_neg (by omega)]

/-- Every other member's share stands. -/
theorem more_else {B : Nat → Bool} (t : Int) {n i j : Nat} (hj : B j = true) (hi : i < n) (hr : (cnt B j : Int) = t % cnt B n) (hne : i ≠ j) :
    share B ((t + 1) / cnt B n) ((t + 1) % cnt B n) i = share B (t / cnt B n) (t % cnt B n) i := by
  cases hb : B i with
  | false => simp [share, hb]
  | true =>
    have hc := cnt_lt hi hb
    have hx : cnt B i ≠ cnt B j := fun h => hne (cnt_inj hb hj h)
    rw [share_yes _ _ hb, share_yes _ _ hb]
    rcases divmod_step t (cnt B n) (by omega) with ⟨_, e1, e2⟩ | ⟨e0, e1, e2⟩
    · rw [e1, e2]
      by_cases h : (cnt B i : Int) < t % cnt B n
      · rw [if_pos h, if_pos (by omega)]
      · rw [if_neg h, if_neg (by omega)]
    · rw [e1, e2, if_neg (by omega), if_pos (by omega)]

theorem share_bound (B : Nat → Bool) (t : Int) (h0 : 0 ≤ t) {n i : Nat} (hi : i < n) (hm : 0 < cnt B n) : share B (t / cnt B n) (t % cnt B n) i ≤ t := by
  cases hb : B i with
  | false => simp [share, hb]; exact h0
  | true =>
    have hr0 : 0 ≤ t % (cnt B n : Int) := Int.emod_nonneg _ (by omega)
    have hq0 : 0 ≤ t / (cnt B n : Int) := Int.ediv_nonneg h0 (by omega)
    have f1 := sumS_share (t / (cnt B n : Int)) (t % (cnt B n : Int)) hb
    have f4 := sumS_nonneg _ _ hq0 hr0 (cnt B i)
    have f5 := sumS_mono _ (t % (cnt B n : Int)) hq0 (show cnt B i + 1 ≤ cnt B n from cnt_lt hi hb)
    rw [sumS_all t _ hm] at f5
    omega
end Go.Proofs.Qxb6628823aFmt
