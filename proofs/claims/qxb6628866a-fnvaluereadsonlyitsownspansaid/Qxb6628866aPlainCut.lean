/- The machine reads only what it walks: a cut where it halts changes nothing; bytes ahead shift it. -/
import Derived.Test.Qxb6628866aPlain
import Derived.Test.Qxb6628866aPlainStr
namespace Go.Proofs.Qxb6628866a

/-! ### The cut -/
theorem wsLen_take : ∀ (l : List UInt8) (n : Nat), wsLen l ≤ n → wsLen (l.take n) = wsLen l
  | [], n, _ => by simp [wsLen]
  | c :: l, 0, h => by
    have h0 : wsLen (c :: l) = 0 := by omega
    rw [h0]
    rfl
  | c :: l, n + 1, h => by
    simp only [List.take_succ_cons, wsLen] at h ⊢
    by_cases e : ws c = true
    · rw [if_pos e] at h
      rw [if_pos e, if_pos e, wsLen_take l n (by omega)]
    · rw [if_neg e, if_neg e]
theorem drop_cut (t : List UInt8) (p j : Nat) : (t.take j).drop p = (t.drop p).take (j - p) := by rw [List.drop_take]
theorem skip_cut {t : List UInt8} {p j : Nat} (h : skip t p ≤ j) : skip (t.take j) p = skip t p := by
  unfold skip at h ⊢
  rw [drop_cut, wsLen_take _ _ (by omega)]
theorem at_cut {t : List UInt8} {p j : Nat} (h : p < j) : (t.take j)[p]? = t[p]? := List.getElem?_take_of_lt h
theorem at_cut_end (t : List UInt8) (j : Nat) : (t.take j)[j]? = none := List.getElem?_take_eq_none (Nat.le_refl _)
theorem at_cut_ne {t : List UInt8} {p j : Nat} {c : UInt8} (h : t[p]? ≠ some c) : (t.take j)[p]? ≠ some c := by
  by_cases e : p < j
  · rw [at_cut e]; exact h
  · rw [List.getElem?_take_eq_none (by omega)]; simp

theorem numRun_take : ∀ (l : List UInt8) (st n : Nat), (numRun st l).1 ≤ n → numRun st (l.take n) = numRun st l
  | [], st, n, _ => by simp
  | c :: l, st, 0, h => by
    simp only [List.take_zero]
    unfold numRun at h ⊢
    cases hs : numStep st c with
    | none => rfl
    | some s => rw [hs] at h; simp at h
  | c :: l, st, n + 1, h => by
    simp only [List.take_succ_cons]
    unfold numRun at h ⊢
    cases hs : numStep st c with
    | none => rfl
    | some s =>
      rw [hs] at h
      simp only at h ⊢
      rw [numRun_take l s n (by omega)]

theorem strLen_take : ∀ (m : Nat) (l : List UInt8) (n k : Nat), l.length ≤ m → strLen l = some k → k ≤ n → strLen (l.take n) = some k
  | 0, l, n, k, h, e, _ => by
    have : l = [] := List.eq_nil_of_length_eq_zero (by omega)
    subst this
    cases e
  | m + 1, l, n, k, h, e, hk => by
    match l, h with
    | [], h => cases e
    | c :: l, h =>
      have hb := (strLen_bd _ _ _ (Nat.le_refl _) e).1
      obtain ⟨n, rfl⟩ : ∃ n', n = n' + 1 := ⟨n - 1, by omega⟩
      rw [List.take_succ_cons, strLen_cons]
      rw [strLen_cons] at e
      by_cases h1 : c = 34
      · rw [if_pos h1] at e ⊢
        exact e
      · rw [if_neg h1] at e ⊢
        by_cases h2 : c.toNat < 32
        · rw [if_pos h2] at e; cases e
        · rw [if_neg h2] at e ⊢
          by_cases h3 : c ≠ 92
          · rw [if_pos h3] at e ⊢
            obtain ⟨x, hx, rfl⟩ := Option.map_eq_some_iff.1 e
            rw [strLen_take m l n x (by simp at h; omega) hx (by omega)]; rfl
          · rw [if_neg h3] at e ⊢
            match l, h with
            | [], h => cases e
            | e' :: l', h =>
              rw [bs_cons] at e
              by_cases h4 : e' = 117
              · rw [if_pos h4] at e
                match l', h with
                | x1 :: x2 :: x3 :: x4 :: r, h =>
                  rw [u4_cons] at e
                  by_cases h5 : hex4 x1 x2 x3 x4 = true
                  · rw [if_pos h5] at e
                    obtain ⟨x, hx, rfl⟩ := Option.map_eq_some_iff.1 e
                    obtain ⟨n', rfl⟩ : ∃ n', n = n' + 5 := ⟨n - 5, by omega⟩
                    simp only [List.take_succ_cons]
                    rw [bs_cons, if_pos h4, u4_cons, if_pos h5, strLen_take m r n' x (by simp at h; omega) hx (by omega)]; rfl
                  · rw [if_neg h5] at e; cases e
                | [], h => cases e
                | [_], h => cases e
                | [_, _], h => cases e
                | [_, _, _], h => cases e
              · rw [if_neg h4] at e
                by_cases h5 : esc e' = true
                · rw [if_pos h5] at e
                  obtain ⟨x, hx, rfl⟩ := Option.map_eq_some_iff.1 e
                  obtain ⟨n', rfl⟩ : ∃ n', n = n' + 1 := ⟨n - 1, by omega⟩
                  rw [List.take_succ_cons, bs_cons, if_neg h4, if_pos h5, strLen_take m l' n' x (by simp at h; omega) hx (by omega)]; rfl
                · rw [if_neg h5] at e; cases e
theorem str_cut {t : List UInt8} {p k j : Nat} (h : strLen (t.drop p) = some k) (hj : p + k ≤ j) : strLen ((t.take j).drop p) = some k := by
  rw [drop_cut]
  exact strLen_take _ _ _ _ (Nat.le_refl _) h (by omega)
theorem num_cut {t : List UInt8} {p j : Nat} (h : p + (numRun 0 (t.drop p)).1 ≤ j) : numRun 0 ((t.take j).drop p) = numRun 0 (t.drop p) := by
  rw [drop_cut, numRun_take _ _ _ (by omega)]
theorem lit_cut {w t : List UInt8} {p j : Nat} (h : w.isPrefixOf (t.drop p) = true) (hj : p + w.length ≤ j) : w.isPrefixOf ((t.take j).drop p) = true := by
  rw [List.isPrefixOf_iff_prefix] at h ⊢
  rw [drop_cut]
  exact List.prefix_take_iff.2 ⟨h, by omega⟩

/-- Where a step leads: its place. -/
def outPos (o : Res ⊕ State) : Nat := match o with
  | .inl r => r.2.1
  | .inr s => s.2.1

theorem num_none (t : List UInt8) (p : Nat) (st : List UInt8) (h : (numRun 0 (t.drop p)).1 = 0) : numOut t p st = .inl (false, p, 0) := by
  unfold numOut
  have h2 : (numRun 0 (t.drop p)).2 = 0 := by
    revert h
    cases t.drop p with
    | nil => intro _; rfl
    | cons c l =>
      intro h
      unfold numRun at h ⊢
      cases hs : numStep 0 c with
      | none => rfl
      | some s => rw [hs] at h; simp at h
  rw [h2, h]
  rfl

theorem val_cut_none {t : List UInt8} {d0 p : Nat} {st : List UInt8} : valOut (t.take p) d0 p st = .inl (false, p, 0) := by
  unfold valOut
  rw [at_cut_end]

theorem open_cut {t : List UInt8} {d0 p j : Nat} {c : UInt8} {st : List UInt8} (hj : outPos (openOut t d0 p c st) ≤ j) : openOut (t.take j) d0 p c st = openOut t d0 p c st := by
  unfold openOut at hj ⊢
  by_cases h1 : 10000 < st.length + 1 + d0
  · rw [if_pos h1, if_pos h1]
  · rw [if_neg h1] at hj
    rw [if_neg h1, if_neg h1]
    by_cases h2 : t[skip t (p + 1)]? = some (closer c)
    · rw [if_pos h2] at hj
      simp only [outPos] at hj
      rw [skip_cut (by omega), at_cut (by omega)]
    · rw [if_neg h2] at hj
      simp only [outPos] at hj
      rw [skip_cut (by omega), if_neg h2, if_neg (at_cut_ne h2)]

theorem str_out_cut {t : List UInt8} {p : Nat} {st : List UInt8} {j : Nat} (hj : outPos (strOut t p st) ≤ j) (hh : ∀ r, strOut t p st = .inl r → j = r.2.1) : strOut (t.take j) p st = strOut t p st := by
  unfold strOut at hj hh ⊢
  cases hs : strLen (t.drop (p + 1)) with
  | none =>
    rw [hs] at hh
    have := hh _ rfl
    subst this
    rw [List.drop_eq_nil_of_le (by simp; omega), strLen_nil]
  | some k =>
    rw [hs] at hj
    simp only [outPos] at hj
    rw [str_cut hs (by omega)]
theorem lit_out_cut {w t : List UInt8} {p : Nat} {st : List UInt8} {j : Nat} (hp : p < j) (hj : outPos (litOut w t p st) ≤ j) (hh : ∀ r, litOut w t p st = .inl r → j = r.2.1) : litOut w (t.take j) p st = litOut w t p st := by
  unfold litOut at hj hh ⊢
  by_cases h : w.isPrefixOf (t.drop p) = true
  · rw [if_pos h] at hj
    simp only [outPos] at hj
    rw [if_pos h, if_pos (lit_cut h hj)]
  · rw [if_neg h] at hh
    have := hh _ rfl
    simp only at this
    omega
theorem num_out_cut {t : List UInt8} {p : Nat} {st : List UInt8} {j : Nat} (hj : outPos (numOut t p st) ≤ j) : numOut (t.take j) p st = numOut t p st := by
  have h2 : outPos (numOut t p st) = p + (numRun 0 (t.drop p)).1 := by unfold numOut; split <;> rfl
  rw [h2] at hj
  unfold numOut
  rw [num_cut hj]

theorem lit_stay {w t : List UInt8} {p : Nat} {st : List UInt8} (hw : 0 < w.length) (h : outPos (litOut w t p st) ≤ p) : litOut w t p st = .inl (false, p, 0) := by
  unfold litOut at h ⊢
  by_cases e : w.isPrefixOf (t.drop p) = true
  · rw [if_pos e] at h
    simp only [outPos] at h
    omega
  · rw [if_neg e]
theorem num_stay {t : List UInt8} {p : Nat} {st : List UInt8} (h : outPos (numOut t p st) ≤ p) : numOut t p st = .inl (false, p, 0) := by
  have h2 : outPos (numOut t p st) = p + (numRun 0 (t.drop p)).1 := by unfold numOut; split <;> rfl
  exact num_none t p st (by omega)
/-- A value that does not move has failed there. -/
theorem val_stay {t : List UInt8} {d0 p : Nat} {st : List UInt8} (h : outPos (valOut t d0 p st) ≤ p) : valOut t d0 p st = .inl (false, p, 0) := by
  unfold valOut at h ⊢
  cases hc : t[p]? with
  | none => rfl
  | some c =>
    rw [hc] at h
    simp only at h ⊢
    have hsk := skip_ge t (p + 1)
    by_cases h1 : c = 123 ∨ c = 91
    · exfalso
      rw [if_pos h1] at h
      unfold openOut at h
      split at h
      · simp only [outPos] at h; omega
      · split at h <;> (simp only [outPos] at h; omega)
    · rw [if_neg h1] at h ⊢
      by_cases h2 : c = 34
      · exfalso
        rw [if_pos h2] at h
        unfold strOut at h
        split at h <;> (simp only [outPos] at h; omega)
      · rw [if_neg h2] at h ⊢
        by_cases h3 : c = 116
        · rw [if_pos h3] at h ⊢
          exact lit_stay (by decide) h
        · rw [if_neg h3] at h ⊢
          by_cases h4 : c = 102
          · rw [if_pos h4] at h ⊢
            exact lit_stay (by decide) h
          · rw [if_neg h4] at h ⊢
            by_cases h5 : c = 110
            · rw [if_pos h5] at h ⊢
              exact lit_stay (by decide) h
            · rw [if_neg h5] at h ⊢
              exact num_stay h

theorem val_cut {t : List UInt8} {d0 p : Nat} {st : List UInt8} {j : Nat} (hj : outPos (valOut t d0 p st) ≤ j) (hpj : p ≤ j) (hh : ∀ r, valOut t d0 p st = .inl r → j = r.2.1) : valOut (t.take j) d0 p st = valOut t d0 p st := by
  cases hc : t[p]? with
  | none =>
    have e : valOut t d0 p st = .inl (false, p, 0) := by unfold valOut; rw [hc]
    rw [e]
    have : j = p := hh _ e
    subst this
    exact val_cut_none
  | some c =>
    by_cases hlt : p < j
    · have hc2 : (t.take j)[p]? = some c := by rw [at_cut hlt]; exact hc
      unfold valOut at hj hh ⊢
      rw [hc] at hj hh
      rw [hc2, hc]
      simp only at hj hh ⊢
      by_cases h1 : c = 123 ∨ c = 91
      · rw [if_pos h1] at hj
        rw [if_pos h1, if_pos h1]
        exact open_cut hj
      · rw [if_neg h1] at hj hh
        rw [if_neg h1, if_neg h1]
        by_cases h2 : c = 34
        · rw [if_pos h2] at hj hh
          rw [if_pos h2, if_pos h2]
          exact str_out_cut hj hh
        · rw [if_neg h2] at hj hh
          rw [if_neg h2, if_neg h2]
          by_cases h3 : c = 116
          · rw [if_pos h3] at hj hh
            rw [if_pos h3, if_pos h3]
            exact lit_out_cut hlt hj hh
          · rw [if_neg h3] at hj hh
            rw [if_neg h3, if_neg h3]
            by_cases h4 : c = 102
            · rw [if_pos h4] at hj hh
              rw [if_pos h4, if_pos h4]
              exact lit_out_cut hlt hj hh
            · rw [if_neg h4] at hj hh
              rw [if_neg h4, if_neg h4]
              by_cases h5 : c = 110
              · rw [if_pos h5] at hj hh
                rw [if_pos h5, if_pos h5]
                exact lit_out_cut hlt hj hh
              · rw [if_neg h5] at hj
                rw [if_neg h5, if_neg h5]
                exact num_out_cut hj
    · have hpe : p = j := by omega
      subst hpe
      rw [val_stay hj]
      exact val_cut_none

theorem name_cut {t : List UInt8} {p : Nat} {st : List UInt8} {j : Nat} (hj : outPos (nameOut t p st) ≤ j) (hh : ∀ r, nameOut t p st = .inl r → j = r.2.1) : nameOut (t.take j) p st = nameOut t p st := by
  unfold nameOut at hj hh ⊢
  by_cases hq : t[p]? = some 34
  · rw [if_pos hq] at hj hh
    rw [if_pos hq]
    cases hs : strLen (t.drop (p + 1)) with
    | none =>
      rw [hs] at hh
      have : j = p + 1 := hh _ rfl
      subst this
      rw [if_pos (by rw [at_cut (by omega)]; exact hq), List.drop_eq_nil_of_le (by simp; omega), strLen_nil]
    | some k =>
      rw [hs] at hj hh
      have hg := skip_ge t (p + 1 + k)
      have hg2 := skip_ge t (skip t (p + 1 + k) + 1)
      simp only at hj hh ⊢
      by_cases hc : t[skip t (p + 1 + k)]? = some 58
      · rw [if_pos hc] at hj
        simp only [outPos] at hj
        rw [if_pos (by rw [at_cut (by omega)]; exact hq), str_cut hs (by omega)]
        simp only
        rw [skip_cut (t := t) (p := p + 1 + k) (by omega), if_pos (by rw [at_cut (by omega)]; exact hc), if_pos hc, skip_cut hj]
      · rw [if_neg hc] at hh
        have : j = skip t (p + 1 + k) := hh _ rfl
        subst this
        rw [if_pos (by rw [at_cut (by omega)]; exact hq), str_cut hs (by omega)]
        simp only
        rw [skip_cut (t := t) (p := p + 1 + k) (Nat.le_refl _), if_neg (at_cut_ne hc), if_neg hc]
  · rw [if_neg hq, if_neg (at_cut_ne hq)]

theorem end_cut {t : List UInt8} {p : Nat} {st : List UInt8} {j : Nat} (hj : outPos (endOut t p st) ≤ j) : endOut (t.take j) p st = endOut t p st := by
  cases st with
  | nil => rfl
  | cons k st =>
    unfold endOut at hj ⊢
    simp only at hj ⊢
    have hg := skip_ge t (skip t p + 1)
    by_cases h1 : t[skip t p]? = some (closer k)
    · rw [if_pos h1] at hj
      simp only [outPos] at hj
      rw [skip_cut (t := t) (p := p) (by omega), if_pos (by rw [at_cut (by omega)]; exact h1), if_pos h1]
    · rw [if_neg h1] at hj
      by_cases h2 : t[skip t p]? = some 44
      · rw [if_pos h2] at hj
        simp only [outPos] at hj
        rw [skip_cut (t := t) (p := p) (by omega), if_neg (at_cut_ne h1), if_neg h1, if_pos (by rw [at_cut (by omega)]; exact h2), if_pos h2, skip_cut hj]
      · rw [if_neg h2] at hj
        simp only [outPos] at hj
        rw [skip_cut (t := t) (p := p) (by omega), if_neg (at_cut_ne h1), if_neg h1, if_neg (at_cut_ne h2), if_neg h2]

/-- A step does not go back. -/
theorem step_ge (t : List UInt8) (d0 : Nat) (s : State) : s.2.1 ≤ outPos (step t d0 s) := by
  obtain ⟨m, p, st⟩ := s
  unfold step
  simp only
  have hk1 := skip_ge t (p + 1)
  have hk2 := skip_ge t p
  have hk3 := skip_ge t (skip t p + 1)
  have hlit : ∀ w : List UInt8, p ≤ outPos (litOut w t p st) := fun w => by unfold litOut; split <;> simp [outPos]
  split
  · unfold valOut
    split
    · simp [outPos]
    · split
      · unfold openOut
        split
        · simp [outPos]
        · split <;> (simp only [outPos]; omega)
      · split
        · unfold strOut
          split <;> (simp only [outPos]; omega)
        · split
          · exact hlit _
          · split
            · exact hlit _
            · split
              · exact hlit _
              · unfold numOut
                split <;> simp [outPos]
  · split
    · unfold nameOut
      split
      · cases hs : strLen (t.drop (p + 1)) with
        | none => simp [outPos]
        | some k =>
          have hk4 := skip_ge t (p + 1 + k)
          have hk5 := skip_ge t (skip t (p + 1 + k) + 1)
          simp only
          split <;> (simp only [outPos]; omega)
      · simp [outPos]
    · unfold endOut
      split
      · simp [outPos]
      · split
        · simp only [outPos]; omega
        · split <;> (simp only [outPos]; omega)

/-- A step that ends at j, or goes on no further than j, is the same over the text cut at j. -/
theorem step_cut {t : List UInt8} {d0 : Nat} {s : State} {j : Nat} (hj : outPos (step t d0 s) ≤ j) (hh : ∀ r, step t d0 s = .inl r → j = r.2.1) : step (t.take j) d0 s = step t d0 s := by
  have hge := step_ge t d0 s
  obtain ⟨m, p, st⟩ := s
  unfold step at hj hh hge ⊢
  simp only at hj hh hge ⊢
  by_cases h0 : m = 0
  · rw [if_pos h0] at hj hh hge
    rw [if_pos h0, if_pos h0]
    exact val_cut hj (by omega) hh
  · rw [if_neg h0] at hj hh
    rw [if_neg h0, if_neg h0]
    by_cases h1 : m = 1
    · rw [if_pos h1] at hj hh
      rw [if_pos h1, if_pos h1]
      exact name_cut hj hh
    · rw [if_neg h1] at hj
      rw [if_neg h1, if_neg h1]
      exact end_cut hj

theorem steps_ge {t : List UInt8} {d0 : Nat} : ∀ (k : Nat) (s : State) (r : Res), steps t d0 k s = .inl r → s.2.1 ≤ r.2.1
  | 0, s, r, h => by simp [steps] at h
  | k + 1, s, r, h => by
    have hg := step_ge t d0 s
    simp only [steps] at h
    cases hs : step t d0 s with
    | inl r' => rw [hs] at h hg; simp only [Sum.inl.injEq] at h; subst h; exact hg
    | inr s' => rw [hs] at h hg; exact Nat.le_trans hg (steps_ge k s' r h)
theorem steps_cut {t : List UInt8} {d0 : Nat} : ∀ (k : Nat) (s : State) (r : Res), steps t d0 k s = .inl r → steps (t.take r.2.1) d0 k s = .inl r
  | 0, s, r, h => by simp [steps] at h
  | k + 1, s, r, h => by
    simp only [steps] at h ⊢
    cases hs : step t d0 s with
    | inl r' =>
      rw [hs] at h
      simp only [Sum.inl.injEq] at h
      subst h
      rw [step_cut (by rw [hs]; exact Nat.le_refl _) (fun r hr => by rw [hs] at hr; cases hr; rfl), hs]
    | inr s' =>
      rw [hs] at h
      have h2 := steps_ge k s' r h
      rw [step_cut (by rw [hs]; exact h2) (fun r hr => by rw [hs] at hr; cases hr), hs]
      exact steps_cut k s' r h
/-- The text cut where the machine halts leaves its result. -/
theorem Halts.cut {t : List UInt8} {d0 : Nat} {s : State} {b : Bool} {j e : Nat} (h : Halts t d0 s (b, j, e)) : Halts (t.take j) d0 s (b, j, e) := by
  obtain ⟨k, hk⟩ := h
  exact ⟨k, steps_cut k s _ hk⟩
theorem Halts.ge {t : List UInt8} {d0 : Nat} {s : State} {b : Bool} {j e : Nat} (h : Halts t d0 s (b, j, e)) : s.2.1 ≤ j := by
  obtain ⟨k, hk⟩ := h
  exact steps_ge k s _ hk

/-! ### Bytes ahead -/
theorem drop_pre (a t : List UInt8) (p : Nat) : (a ++ t).drop (a.length + p) = t.drop p := by
  rw [List.drop_append]
  simp
theorem at_pre (a t : List UInt8) (p : Nat) : (a ++ t)[a.length + p]? = t[p]? := by
  rw [List.getElem?_append_right (by omega), Nat.add_sub_cancel_left]
theorem skip_pre (a t : List UInt8) (p : Nat) : skip (a ++ t) (a.length + p) = a.length + skip t p := by
  unfold skip
  rw [drop_pre]
  omega
/-- A result, a state, moved on by n. -/
def moved (n : Nat) : Res ⊕ State → Res ⊕ State
  | .inl r => .inl (r.1, n + r.2.1, r.2.2)
  | .inr s => .inr (s.1, n + s.2.1, s.2.2)

theorem skip_pre1 (a t : List UInt8) (p : Nat) : skip (a ++ t) (a.length + p + 1) = a.length + skip t (p + 1) := skip_pre a t (p + 1)
theorem drop_pre1 (a t : List UInt8) (p : Nat) : (a ++ t).drop (a.length + p + 1) = t.drop (p + 1) := drop_pre a t (p + 1)
theorem open_pre (a t : List UInt8) (d0 p : Nat) (c : UInt8) (st : List UInt8) : openOut (a ++ t) d0 (a.length + p) c st = moved a.length (openOut t d0 p c st) := by
  unfold openOut
  rw [skip_pre1, at_pre]
  split
  · rfl
  · split <;> rfl
theorem str_pre (a t : List UInt8) (p : Nat) (st : List UInt8) : strOut (a ++ t) (a.length + p) st = moved a.length (strOut t p st) := by
  unfold strOut
  rw [drop_pre1]
  cases strLen (t.drop (p + 1)) with
  | none => rfl
  | some k => simp only [moved, Nat.add_assoc]
theorem lit_pre (w a t : List UInt8) (p : Nat) (st : List UInt8) : litOut w (a ++ t) (a.length + p) st = moved a.length (litOut w t p st) := by
  unfold litOut
  rw [drop_pre]
  split
  · simp only [moved, Nat.add_assoc]
  · rfl
theorem num_pre (a t : List UInt8) (p : Nat) (st : List UInt8) : numOut (a ++ t) (a.length + p) st = moved a.length (numOut t p st) := by
  unfold numOut
  rw [drop_pre]
  split <;> simp only [moved, Nat.add_assoc]
theorem val_pre (a t : List UInt8) (d0 p : Nat) (st : List UInt8) : valOut (a ++ t) d0 (a.length + p) st = moved a.length (valOut t d0 p st) := by
  unfold valOut
  rw [at_pre]
  cases t[p]? with
  | none => rfl
  | some c =>
    simp only
    split
    · exact open_pre ..
    · split
      · exact str_pre ..
      · split
        · exact lit_pre ..
        · split
          · exact lit_pre ..
          · split
            · exact lit_pre ..
            · exact num_pre ..
theorem name_pre (a t : List UInt8) (p : Nat) (st : List UInt8) : nameOut (a ++ t) (a.length + p) st = moved a.length (nameOut t p st) := by
  unfold nameOut
  rw [at_pre, drop_pre1]
  split
  · cases strLen (t.drop (p + 1)) with
    | none => rfl
    | some k =>
      simp only
      rw [show a.length + p + 1 + k = a.length + (p + 1 + k) by omega, skip_pre, at_pre, skip_pre1]
      split <;> rfl
  · rfl
theorem end_pre (a t : List UInt8) (p : Nat) (st : List UInt8) : endOut (a ++ t) (a.length + p) st = moved a.length (endOut t p st) := by
  unfold endOut
  cases st with
  | nil => rfl
  | cons k st =>
    simp only
    rw [skip_pre, at_pre, skip_pre1]
    split
    · rfl
    · split <;> rfl
theorem step_pre (a t : List UInt8) (d0 m p : Nat) (st : List UInt8) : step (a ++ t) d0 (m, a.length + p, st) = moved a.length (step t d0 (m, p, st)) := by
  unfold step
  simp only
  split
  · exact val_pre ..
  · split
    · exact name_pre ..
    · exact end_pre ..
theorem steps_pre (a t : List UInt8) (d0 : Nat) : ∀ (k m p : Nat) (st : List UInt8), steps (a ++ t) d0 k (m, a.length + p, st) = moved a.length (steps t d0 k (m, p, st))
  | 0, m, p, st => rfl
  | k + 1, m, p, st => by
    simp only [steps]
    rw [step_pre]
    cases step t d0 (m, p, st) with
    | inl r => rfl
    | inr s' => exact steps_pre a t d0 k s'.1 s'.2.1 s'.2.2
/-- Bytes ahead of the text shift the machine's place and nothing else. -/
theorem Halts.shift {t : List UInt8} {d0 m p : Nat} {st : List UInt8} {b : Bool} {j e : Nat} (a : List UInt8) (h : Halts t d0 (m, p, st) (b, j, e)) : Halts (a ++ t) d0 (m, a.length + p, st) (b, a.length + j, e) := by
  obtain ⟨k, hk⟩ := h
  exact ⟨k, by rw [steps_pre, hk]; rfl⟩
end Go.Proofs.Qxb6628866a
