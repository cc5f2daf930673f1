/- The number: the automaton and the walk's own way to read it give one answer. -/
import Derived.Test.Qxb6628866aWalkC
namespace Go.Proofs.Qxb6628866a

/-- Where the automaton ends that stands at p in state st, and in which state. -/
def NR (t : List UInt8) (p st : Nat) : Nat × Nat := (p + (numRun st (t.drop p)).1, (numRun st (t.drop p)).2)

theorem NR_go {t : List UInt8} {p st s : Nat} {c : UInt8} (h : t[p]? = some c) (hs : numStep st c = some s) : NR t p st = NR t (p + 1) s := by
  obtain ⟨hp, e⟩ := List.getElem?_eq_some_iff.1 h
  unfold NR
  rw [drop_cons hp, e, numRun, hs]
  simp only
  rw [Prod.mk.injEq]
  exact ⟨by omega, rfl⟩
theorem NR_stop {t : List UInt8} {p st : Nat} (h : ∀ c, t[p]? = some c → numStep st c = none) : NR t p st = (p, st) := by
  unfold NR
  by_cases hp : p < t.length
  · rw [drop_cons hp, numRun, h _ (at_lt hp)]
    rfl
  · rw [List.drop_eq_nil_of_le (by omega), numRun]
    rfl

/-- At p stands no digit. -/
def noDig (t : List UInt8) (p : Nat) : Prop := ∀ c, t[p]? = some c → isDig c = false

theorem dg_at {t : List UInt8} : ∀ (n p : Nat), t.length - p ≤ n → noDig t (p + dg (t.drop p))
  | 0, p, h => by
    intro c hc
    rw [dg_end (by omega)] at hc
    rw [at_ge (by omega)] at hc
    cases hc
  | n + 1, p, h => by
    by_cases hp : p < t.length
    · cases hd : isDig t[p]
      · rw [dg_no hp hd]
        intro c hc
        rw [Nat.add_zero, at_lt hp] at hc
        rw [← Option.some.inj hc]
        exact hd
      · rw [dg_yes hp hd]
        exact dg_at n (p + 1) (by omega)
    · intro c hc
      rw [dg_end hp, at_ge (by omega)] at hc
      cases hc

theorem NR_digits {t : List UInt8} (st : Nat) (hst : ∀ c, isDig c = true → numStep st c = some st) : ∀ (n p : Nat), t.length - p ≤ n → NR t p st = NR t (p + dg (t.drop p)) st
  | 0, p, h => by rw [dg_end (by omega), Nat.add_zero]
  | n + 1, p, h => by
    by_cases hp : p < t.length
    · cases hd : isDig t[p]
      · rw [dg_no hp hd, Nat.add_zero]
      · rw [dg_yes hp hd, NR_go (at_lt hp) (hst _ hd)]
        exact NR_digits st hst n (p + 1) (by omega)
    · rw [dg_end hp, Nat.add_zero]

theorem dg_pos {t : List UInt8} {p : Nat} (h : 0 < dg (t.drop p)) : ∃ c, t[p]? = some c ∧ isDig c = true ∧ p + dg (t.drop p) = p + 1 + dg (t.drop (p + 1)) := by
  by_cases hp : p < t.length
  · cases hd : isDig t[p]
    · rw [dg_no hp hd] at h; omega
    · exact ⟨_, at_lt hp, hd, dg_yes hp hd⟩
  · rw [dg_end hp] at h; omega
theorem dg_zero {t : List UInt8} {p : Nat} (h : dg (t.drop p) = 0) : noDig t p := by
  have := dg_at (t.length - p) p (Nat.le_refl _)
  rwa [h, Nat.add_zero] at this

theorem dig_ne {c : UInt8} (h : isDig c = true) : c ≠ 45 ∧ c ≠ 46 ∧ c ≠ 101 ∧ c ≠ 69 ∧ c ≠ 43 := by
  refine ⟨?_, ?_, ?_, ?_, ?_⟩ <;> (rintro rfl; revert h; decide)

/-! The steps, in the walk's own order. -/
theorem n_minus {t : List UInt8} {i : Nat} (h : t[i]? = some 45) : NR t i 0 = NR t (i + 1) 1 := NR_go h (by decide)
theorem n_zero {t : List UInt8} {j s : Nat} (hs : s = 0 ∨ s = 1) (h : t[j]? = some 48) : NR t j s = NR t (j + 1) 2 := by
  rcases hs with rfl | rfl <;> exact NR_go h (by decide)
theorem n_int {t : List UInt8} {j s : Nat} (hs : s = 0 ∨ s = 1) (hz : t[j]? ≠ some 48) (hk : 0 < dg (t.drop j)) : NR t j s = NR t (j + dg (t.drop j)) 3 := by
  obtain ⟨c, hc, hd, e⟩ := dg_pos hk
  have hcz : c ≠ 48 := fun e => hz (by rw [hc, e])
  obtain ⟨h1, _⟩ := dig_ne hd
  rw [e, NR_go (s := 3) hc (by rcases hs with rfl | rfl <;> simp [numStep, h1, hcz, hd])]
  exact NR_digits 3 (fun c h => by simp [numStep, h]) _ _ (Nat.le_refl _)
theorem n_none {t : List UInt8} {j s : Nat} (hs : (s = 0 ∧ t[j]? ≠ some 45) ∨ s = 1) (hz : t[j]? ≠ some 48) (hk : dg (t.drop j) = 0) : NR t j s = (j, s) := by
  refine NR_stop (fun c hc => ?_)
  have hd := dg_zero hk c hc
  have hcz : c ≠ 48 := fun e => hz (by rw [hc, e])
  rcases hs with ⟨rfl, hm⟩ | rfl
  · have hcm : c ≠ 45 := fun e => hm (by rw [hc, e])
    simp [numStep, hcm, hcz, hd]
  · simp [numStep, hcz, hd]
/-- In the integer part: a lone zero, or digits with no digit behind them. -/
def inInt (t : List UInt8) (j s : Nat) : Prop := s = 2 ∨ (s = 3 ∧ noDig t j)
theorem n_dot {t : List UInt8} {j s : Nat} (hs : inInt t j s) (h : t[j]? = some 46) : NR t j s = NR t (j + 1) 4 := by
  rcases hs with rfl | ⟨rfl, hd⟩
  · exact NR_go h (by decide)
  · exact NR_go h (by decide)
theorem n_frac {t : List UInt8} {j : Nat} (hk : 0 < dg (t.drop j)) : NR t j 4 = NR t (j + dg (t.drop j)) 5 := by
  obtain ⟨c, hc, hd, e⟩ := dg_pos hk
  rw [e, NR_go (s := 5) hc (by simp [numStep, hd])]
  exact NR_digits 5 (fun c h => by simp [numStep, h]) _ _ (Nat.le_refl _)
theorem n_nofrac {t : List UInt8} {j : Nat} (hk : dg (t.drop j) = 0) : NR t j 4 = (j, 4) :=
  NR_stop (fun c hc => by simp [numStep, dg_zero hk c hc])
/-- Ahead of the exponent. -/
def aheadExp (t : List UInt8) (j s : Nat) : Prop := (s = 2 ∧ t[j]? ≠ some 46) ∨ (s = 3 ∧ noDig t j ∧ t[j]? ≠ some 46) ∨ (s = 5 ∧ noDig t j)
theorem n_exp {t : List UInt8} {j s : Nat} (hs : aheadExp t j s) (h : t[j]? = some 101 ∨ t[j]? = some 69) : NR t j s = NR t (j + 1) 6 := by
  rcases h with h | h <;> rcases hs with ⟨rfl, _⟩ | ⟨rfl, _⟩ | ⟨rfl, _⟩ <;> exact NR_go h (by decide)
theorem n_end {t : List UInt8} {j s : Nat} (hs : aheadExp t j s) (h1 : t[j]? ≠ some 101) (h2 : t[j]? ≠ some 69) : NR t j s = (j, s) ∧ numAcc s = true := by
  refine ⟨NR_stop (fun c hc => ?_), by rcases hs with ⟨rfl, _⟩ | ⟨rfl, _⟩ | ⟨rfl, _⟩ <;> decide⟩
  have e1 : c ≠ 101 := fun e => h1 (by rw [hc, e])
  have e2 : c ≠ 69 := fun e => h2 (by rw [hc, e])
  rcases hs with ⟨rfl, hm⟩ | ⟨rfl, hd, hm⟩ | ⟨rfl, hd⟩
  · have e3 : c ≠ 46 := fun e => hm (by rw [hc, e])
    simp [numStep, e1, e2, e3]
  · have e3 : c ≠ 46 := fun e => hm (by rw [hc, e])
    simp [numStep, e1, e2, e3, hd c hc]
  · simp [numStep, e1, e2, hd c hc]
theorem n_sign {t : List UInt8} {j : Nat} (h : t[j]? = some 43 ∨ t[j]? = some 45) : NR t j 6 = NR t (j + 1) 7 := by
  rcases h with h | h <;> exact NR_go h (by decide)
/-- Ahead of the exponent's digits. -/
def aheadDig (t : List UInt8) (j s : Nat) : Prop := s = 7 ∨ (s = 6 ∧ t[j]? ≠ some 43 ∧ t[j]? ≠ some 45)
theorem n_expdigs {t : List UInt8} {j s : Nat} (hs : aheadDig t j s) : (NR t j s).1 = j + dg (t.drop j) ∧ numAcc (NR t j s).2 = decide (0 < dg (t.drop j)) := by
  by_cases hk : 0 < dg (t.drop j)
  · obtain ⟨c, hc, hd, e⟩ := dg_pos hk
    obtain ⟨h1, _, _, _, h5⟩ := dig_ne hd
    have e2 : NR t j s = (j + dg (t.drop j), 8) := by
      have e3 : NR t j s = NR t (j + dg (t.drop j)) 8 := by
        rw [e, NR_go (s := 8) hc (by rcases hs with rfl | ⟨rfl, _⟩ <;> simp [numStep, hd, h1, h5])]
        exact NR_digits 8 (fun c h => by simp [numStep, h]) _ _ (Nat.le_refl _)
      rw [e3]
      exact NR_stop (fun c hc => by simp [numStep, dg_at _ j (Nat.le_refl _) c hc])
    rw [e2]
    simp [hk, numAcc]
  · have hz : dg (t.drop j) = 0 := by omega
    have e2 : NR t j s = (j, s) := NR_stop (fun c hc => by
      have hd := dg_zero hz c hc
      rcases hs with rfl | ⟨rfl, h1, h2⟩
      · simp [numStep, hd]
      · have e1 : c ≠ 43 := fun e => h1 (by rw [hc, e])
        have e3 : c ≠ 45 := fun e => h2 (by rw [hc, e])
        simp [numStep, hd, e1, e3])
    rw [e2, hz]
    rcases hs with rfl | ⟨rfl, _⟩ <;> simp [numAcc]
theorem numRun_le : ∀ (l : List UInt8) (st : Nat), (numRun st l).1 ≤ l.length
  | [], st => by simp [numRun]
  | c :: l, st => by
    rw [numRun]
    split
    · simp
    · rename_i s _
      have := numRun_le l s
      simp; omega
theorem NR_le {t : List UInt8} {p st : Nat} (h : p ≤ t.length) : p ≤ (NR t p st).1 ∧ (NR t p st).1 ≤ t.length := by
  unfold NR
  have := numRun_le (t.drop p) st
  rw [List.length_drop] at this
  simp only
  omega
end Go.Proofs.Qxb6628866a
