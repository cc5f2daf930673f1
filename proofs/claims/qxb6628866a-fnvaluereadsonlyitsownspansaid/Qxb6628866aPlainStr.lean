/- The string: one step at a time. -/
import Derived.Test.Qxb6628866aPlain
namespace Go.Proofs.Qxb6628866a

def u4 (l : List UInt8) : Option Nat := match l with
  | h1 :: h2 :: h3 :: h4 :: r => if hex4 h1 h2 h3 h4 = true then (strLen r).map (· + 6) else none
  | _ => none
def bs (l : List UInt8) : Option Nat := match l with
  | [] => none
  | e :: l' => if e = 117 then u4 l' else if esc e = true then (strLen l').map (· + 2) else none
theorem strLen_nil : strLen [] = none := by rw [strLen.eq_def]
theorem strLen_cons (c : UInt8) (l : List UInt8) : strLen (c :: l) = if c = 34 then some 1 else if c.toNat < 32 then none else if c ≠ 92 then (strLen l).map (· + 1) else bs l := by
  rw [strLen.eq_def]
  rfl
theorem u4_cons (h1 h2 h3 h4 : UInt8) (r : List UInt8) : u4 (h1 :: h2 :: h3 :: h4 :: r) = if hex4 h1 h2 h3 h4 = true then (strLen r).map (· + 6) else none := rfl
theorem bs_cons (e : UInt8) (l : List UInt8) : bs (e :: l) = if e = 117 then u4 l else if esc e = true then (strLen l).map (· + 2) else none := rfl
theorem bs_nil : bs [] = none := rfl

/-- Where a string ends whose reading goes on at p. -/
def SL (t : List UInt8) (p : Nat) : Option Nat := (strLen (t.drop p)).map (· + p)

theorem map_shift (o : Option Nat) (p k : Nat) : (o.map (· + k)).map (· + p) = o.map (· + (p + k)) := by
  cases o with
  | none => rfl
  | some x => simp; omega

theorem SL_end {t : List UInt8} {p : Nat} (h : ¬ p < t.length) : SL t p = none := by
  unfold SL
  rw [List.drop_eq_nil_of_le (by omega), strLen_nil]
  rfl
theorem SL_quote {t : List UInt8} {p : Nat} (h : t[p]? = some 34) : SL t p = some (p + 1) := by
  obtain ⟨hp, e⟩ := List.getElem?_eq_some_iff.1 h
  unfold SL
  rw [drop_cons hp, e, strLen_cons, if_pos rfl]
  simp; omega
theorem SL_ctl {t : List UInt8} {p : Nat} {c : UInt8} (h : t[p]? = some c) (h1 : c ≠ 34) (h2 : c.toNat < 32) : SL t p = none := by
  obtain ⟨hp, e⟩ := List.getElem?_eq_some_iff.1 h
  unfold SL
  rw [drop_cons hp, e, strLen_cons, if_neg h1, if_pos h2]
  rfl
theorem SL_plain {t : List UInt8} {p : Nat} {c : UInt8} (h : t[p]? = some c) (h1 : c ≠ 34) (h2 : ¬ c.toNat < 32) (h3 : c ≠ 92) : SL t p = SL t (p + 1) := by
  obtain ⟨hp, e⟩ := List.getElem?_eq_some_iff.1 h
  unfold SL
  rw [drop_cons hp, e, strLen_cons, if_neg h1, if_neg h2, if_pos h3, map_shift]
theorem SL_bs_end {t : List UInt8} {p : Nat} (h : t[p]? = some 92) (h1 : ¬ p + 1 < t.length) : SL t p = none := by
  obtain ⟨hp, e⟩ := List.getElem?_eq_some_iff.1 h
  unfold SL
  rw [drop_cons hp, e, List.drop_eq_nil_of_le (by omega), strLen_cons, if_neg (by decide), if_neg (by decide), if_neg (by simp), bs_nil]
  rfl
theorem SL_bs_esc {t : List UInt8} {p : Nat} {c : UInt8} (h : t[p]? = some 92) (hc : t[p + 1]? = some c) (h1 : c ≠ 117) (h2 : esc c = true) : SL t p = SL t (p + 2) := by
  obtain ⟨hp, e⟩ := List.getElem?_eq_some_iff.1 h
  obtain ⟨hp2, e2⟩ := List.getElem?_eq_some_iff.1 hc
  unfold SL
  rw [drop_cons hp, e, drop_cons hp2, e2, strLen_cons, if_neg (by decide), if_neg (by decide), if_neg (by simp), bs_cons, if_neg h1, if_pos h2, map_shift]
theorem SL_bs_bad {t : List UInt8} {p : Nat} {c : UInt8} (h : t[p]? = some 92) (hc : t[p + 1]? = some c) (h1 : c ≠ 117) (h2 : esc c = false) : SL t p = none := by
  obtain ⟨hp, e⟩ := List.getElem?_eq_some_iff.1 h
  obtain ⟨hp2, e2⟩ := List.getElem?_eq_some_iff.1 hc
  unfold SL
  rw [drop_cons hp, e, drop_cons hp2, e2, strLen_cons, if_neg (by decide), if_neg (by decide), if_neg (by simp), bs_cons, if_neg h1, if_neg (by rw [h2]; simp)]
  rfl
theorem SL_u {t : List UInt8} {p : Nat} (h : t[p]? = some 92) (hc : t[p + 1]? = some 117) (h5 : p + 5 < t.length) :
    SL t p = if hex4 t[p + 2] t[p + 3] t[p + 4] t[p + 5] = true then SL t (p + 6) else none := by
  obtain ⟨hp, e⟩ := List.getElem?_eq_some_iff.1 h
  obtain ⟨hp2, e2⟩ := List.getElem?_eq_some_iff.1 hc
  unfold SL
  rw [drop_cons hp, e, drop_cons hp2, e2, drop_cons (show p + 1 + 1 < t.length by omega), drop_cons (show p + 1 + 1 + 1 < t.length by omega), drop_cons (show p + 1 + 1 + 1 + 1 < t.length by omega), drop_cons (show p + 1 + 1 + 1 + 1 + 1 < t.length by omega),
    strLen_cons, if_neg (by decide), if_neg (by decide), if_neg (by simp), bs_cons, if_pos rfl, u4_cons]
  by_cases hx : hex4 t[p + 2] t[p + 3] t[p + 4] t[p + 5] = true
  · rw [if_pos hx]
    have hx' : hex4 t[p + 1 + 1] t[p + 1 + 1 + 1] t[p + 1 + 1 + 1 + 1] t[p + 1 + 1 + 1 + 1 + 1] = true := hx
    rw [if_pos hx', map_shift]
  · rw [if_neg hx]
    have hx' : ¬ hex4 t[p + 1 + 1] t[p + 1 + 1 + 1] t[p + 1 + 1 + 1 + 1] t[p + 1 + 1 + 1 + 1 + 1] = true := hx
    rw [if_neg hx']
    rfl
theorem SL_u_short {t : List UInt8} {p : Nat} (h : t[p]? = some 92) (hc : t[p + 1]? = some 117) (h5 : ¬ p + 5 < t.length) : SL t p = none := by
  obtain ⟨hp, e⟩ := List.getElem?_eq_some_iff.1 h
  obtain ⟨hp2, e2⟩ := List.getElem?_eq_some_iff.1 hc
  unfold SL
  have hl : (t.drop (p + 1 + 1)).length < 4 := by rw [List.length_drop]; omega
  rw [drop_cons hp, e, drop_cons hp2, e2, strLen_cons, if_neg (by decide), if_neg (by decide), if_neg (by simp), bs_cons, if_pos rfl]
  generalize t.drop (p + 1 + 1) = r at hl
  match r, hl with
  | [], _ => rfl
  | [_], _ => rfl
  | [_, _], _ => rfl
  | [_, _, _], _ => rfl
theorem SL_u_hex {t : List UInt8} {p : Nat} (h : t[p]? = some 92) (hc : t[p + 1]? = some 117) (h5 : p + 5 < t.length) (hx : ∀ m (hm : m < 4), hexd (t[p + 2 + m]'(by omega)) = true) : SL t p = SL t (p + 6) := by
  rw [SL_u h hc h5, if_pos]
  have a0 := hx 0 (by omega)
  have a1 := hx 1 (by omega)
  have a2 := hx 2 (by omega)
  have a3 := hx 3 (by omega)
  unfold hex4
  simp only [Bool.and_eq_true]
  exact ⟨⟨⟨a0, a1⟩, a2⟩, a3⟩
theorem SL_u_bad {t : List UInt8} {p m : Nat} (h : t[p]? = some 92) (hc : t[p + 1]? = some 117) (h5 : p + 5 < t.length) (hm : m < 4) (hx : hexd (t[p + 2 + m]'(by omega)) = false) : SL t p = none := by
  rw [SL_u h hc h5, if_neg]
  unfold hex4
  simp only [Bool.and_eq_true]
  rintro ⟨⟨⟨a0, a1⟩, a2⟩, a3⟩
  match m, hm with
  | 0, _ => exact absurd (a0.symm.trans hx) (by simp)
  | 1, _ => exact absurd (a1.symm.trans hx) (by simp)
  | 2, _ => exact absurd (a2.symm.trans hx) (by simp)
  | 3, _ => exact absurd (a3.symm.trans hx) (by simp)

theorem strLen_bd : ∀ (n : Nat) (l : List UInt8) (k : Nat), l.length ≤ n → strLen l = some k → 1 ≤ k ∧ k ≤ l.length
  | 0, l, k, h, e => by
    have : l = [] := List.eq_nil_of_length_eq_zero (by omega)
    subst this
    cases e
  | n + 1, l, k, h, e => by
    match l, h with
    | c :: l, h =>
      rw [strLen_cons] at e
      split at e
      · simp at e; subst e; simp
      · split at e
        · cases e
        · split at e
          · obtain ⟨x, hx, rfl⟩ := Option.map_eq_some_iff.1 e
            have := strLen_bd n l x (by simp at h; omega) hx
            simp; omega
          · match l, h with
            | [], h => cases e
            | e' :: l', h =>
              rw [bs_cons] at e
              split at e
              · match l', h with
                | h1 :: h2 :: h3 :: h4 :: r, h =>
                  rw [u4_cons] at e
                  split at e
                  · obtain ⟨x, hx, rfl⟩ := Option.map_eq_some_iff.1 e
                    have := strLen_bd n r x (by simp at h; omega) hx
                    simp; omega
                  · cases e
                | [], h => cases e
                | [_], h => cases e
                | [_, _], h => cases e
                | [_, _, _], h => cases e
              · split at e
                · obtain ⟨x, hx, rfl⟩ := Option.map_eq_some_iff.1 e
                  have := strLen_bd n l' x (by simp at h; omega) hx
                  simp; omega
                · cases e
theorem SL_bd {t : List UInt8} {p q : Nat} (h : SL t p = some q) : p < q ∧ q ≤ t.length := by
  unfold SL at h
  obtain ⟨k, hk, rfl⟩ := Option.map_eq_some_iff.1 h
  have := strLen_bd _ _ _ (Nat.le_refl _) hk
  rw [List.length_drop] at this
  omega
end Go.Proofs.Qxb6628866a
