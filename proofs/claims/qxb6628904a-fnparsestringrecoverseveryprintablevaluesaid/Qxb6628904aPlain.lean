/- The plain part: a field string's reading over a list of bytes, with no Go in sight. -/
import Derived.WalkKit
namespace Go.Proofs.Qxb6628904a

def pri (c : UInt8) : Bool := decide (32 ≤ c.toNat) && decide (c.toNat ≤ 126)
def qb (c : UInt8) : Bool := c == 34 || c == 92

/-- What is read of the bytes behind the first one. -/
def pr : List UInt8 → Option (List UInt8)
  | [] => none
  | c :: l =>
    if c = 92 then
      match l with
      | [] => none
      | e :: l' => if qb e = true then (pr l').map (e :: ·) else none
    else if c = 34 then (if l = [] then some [] else none)
    else if pri c = true then (pr l).map (c :: ·) else none
def bsp (l : List UInt8) : Option (List UInt8) := match l with
  | [] => none
  | e :: l' => if qb e = true then (pr l').map (e :: ·) else none
theorem pr_nil : pr [] = none := by rw [pr.eq_def]
theorem pr_cons (c : UInt8) (l : List UInt8) : pr (c :: l) = if c = 92 then bsp l else if c = 34 then (if l = [] then some [] else none) else if pri c = true then (pr l).map (c :: ·) else none := by
  rw [pr.eq_def]
  rfl
theorem bsp_nil : bsp [] = none := rfl
theorem bsp_cons (e : UInt8) (l : List UInt8) : bsp (e :: l) = if qb e = true then (pr l).map (e :: ·) else none := rfl

theorem drop_cons {t : List UInt8} {p : Nat} (h : p < t.length) : t.drop p = t[p] :: t.drop (p + 1) := List.drop_eq_getElem_cons h
def PS (l : List UInt8) (i : Nat) : Option (List UInt8) := pr (l.drop i)
theorem PS_end {l : List UInt8} {i : Nat} (h : ¬ i < l.length) : PS l i = none := by
  unfold PS
  rw [List.drop_eq_nil_of_le (by omega), pr_nil]
theorem PS_bs_end {l : List UInt8} {i : Nat} (hi : i < l.length) (h : l[i] = 92) (h1 : ¬ i + 1 < l.length) : PS l i = none := by
  unfold PS
  rw [drop_cons hi, h, List.drop_eq_nil_of_le (by omega), pr_cons, if_pos rfl, bsp_nil]
theorem PS_bs_ok {l : List UInt8} {i : Nat} (hi : i < l.length) (h : l[i] = 92) (h1 : i + 1 < l.length) (hq : qb l[i + 1] = true) : PS l i = (PS l (i + 2)).map (l[i + 1] :: ·) := by
  unfold PS
  rw [drop_cons hi, h, drop_cons h1, pr_cons, if_pos rfl, bsp_cons, if_pos hq]
theorem PS_bs_bad {l : List UInt8} {i : Nat} (hi : i < l.length) (h : l[i] = 92) (h1 : i + 1 < l.length) (hq : qb l[i + 1] = false) : PS l i = none := by
  unfold PS
  rw [drop_cons hi, h, drop_cons h1, pr_cons, if_pos rfl, bsp_cons, if_neg (by rw [hq]; simp)]
theorem PS_q_end {l : List UInt8} {i : Nat} (hi : i < l.length) (h : l[i] = 34) (h1 : i + 1 = l.length) : PS l i = some [] := by
  unfold PS
  rw [drop_cons hi, h, List.drop_eq_nil_of_le (by omega), pr_cons, if_neg (by decide), if_pos rfl, if_pos rfl]
theorem PS_q_more {l : List UInt8} {i : Nat} (hi : i < l.length) (h : l[i] = 34) (h1 : i + 1 < l.length) : PS l i = none := by
  unfold PS
  rw [drop_cons hi, h, drop_cons h1, pr_cons, if_neg (by decide), if_pos rfl, if_neg (List.cons_ne_nil _ _)]
theorem PS_bad {l : List UInt8} {i : Nat} (hi : i < l.length) (h1 : l[i] ≠ 92) (h2 : l[i] ≠ 34) (h3 : pri l[i] = false) : PS l i = none := by
  unfold PS
  rw [drop_cons hi, pr_cons, if_neg h1, if_neg h2, if_neg (by rw [h3]; simp)]
theorem PS_ok {l : List UInt8} {i : Nat} (hi : i < l.length) (h1 : l[i] ≠ 92) (h2 : l[i] ≠ 34) (h3 : pri l[i] = true) : PS l i = (PS l (i + 1)).map (l[i] :: ·) := by
  unfold PS
  rw [drop_cons hi, pr_cons, if_neg h1, if_neg h2, if_pos h3]
theorem map_acc (o : Option (List UInt8)) (acc : List UInt8) (c : UInt8) : (o.map (c :: ·)).map (acc ++ ·) = o.map ((acc ++ [c]) ++ ·) := by
  cases o with
  | none => rfl
  | some x => simp

/-! ### The two-state machine -/
def mr : Bool → Bool → List UInt8 → List UInt8 → Option (List UInt8)
  | p, g, out, [] => if p = false ∧ g = true then some out else none
  | p, g, out, c :: l =>
    if p = true then (if qb c = true then mr false g (out ++ [c]) l else mr false false out l)
    else if c = 92 then mr true g out l
    else if c = 34 ∨ pri c = false then mr false false out l
    else mr false g (out ++ [c]) l
theorem mr_bad : ∀ (l : List UInt8) (p : Bool) (out : List UInt8), mr p false out l = none
  | [], p, out => by simp [mr]
  | c :: l, p, out => by
    rw [mr]
    split
    · split <;> exact mr_bad l _ _
    · split
      · exact mr_bad l _ _
      · split <;> exact mr_bad l _ _
theorem mr_pr : ∀ (n : Nat) (b : List UInt8), b.length ≤ n → ∀ out, mr false true out b = (pr (b ++ [34])).map (out ++ ·) ∧ mr true true out b = (bsp (b ++ [34])).map (out ++ ·)
  | n, [], _, out => by
    constructor
    · have e : pr [34] = some [] := by rw [pr_cons, if_neg (by decide), if_pos rfl, if_pos rfl]
      rw [mr, List.nil_append, e]
      simp
    · have e : bsp [34] = none := by rw [bsp_cons, if_pos (by decide), pr_nil]; rfl
      rw [mr, List.nil_append, e]
      simp
  | 0, c :: l, h, out => by simp at h
  | n + 1, c :: l, h, out => by
    have ih := mr_pr n l (by simp at h; omega)
    constructor
    · rw [mr, List.cons_append, pr_cons, if_neg (by simp)]
      by_cases h1 : c = 92
      · rw [if_pos h1, if_pos h1]
        exact (ih out).2
      · rw [if_neg h1, if_neg h1]
        by_cases h2 : c = 34
        · rw [if_pos (.inl h2), if_pos h2, mr_bad, if_neg (by simp)]
          rfl
        · rw [if_neg h2]
          cases h3 : pri c
          · rw [if_pos (.inr rfl), if_neg (by simp), mr_bad]
            rfl
          · rw [if_neg (by simp [h2]), if_pos rfl, (ih _).1, map_acc]
    · rw [mr, List.cons_append, bsp_cons, if_pos rfl]
      cases h1 : qb c
      · rw [if_neg (by simp), if_neg (by simp), mr_bad]
        rfl
      · rw [if_pos rfl, if_pos rfl, (ih _).1, map_acc]

/-- What is read ends with a quote. -/
theorem pr_last : ∀ (n : Nat) (l v : List UInt8), l.length ≤ n → pr l = some v → l.getLast? = some 34
  | n, [], v, _, h => by rw [pr_nil] at h; cases h
  | 0, c :: l, v, h, _ => by simp at h
  | n + 1, c :: l, v, h, e => by
    rw [pr_cons] at e
    by_cases h1 : c = 92
    · rw [if_pos h1] at e
      match l, h with
      | [], h => cases e
      | x :: l', h =>
        rw [bsp_cons] at e
        split at e
        · obtain ⟨y, hy, _⟩ := Option.map_eq_some_iff.1 e
          have := pr_last n l' y (by simp at h; omega) hy
          rw [List.getLast?_cons, List.getLast?_cons]
          simp [this]
        · cases e
    · rw [if_neg h1] at e
      by_cases h2 : c = 34
      · rw [if_pos h2] at e
        split at e
        · rename_i hl; subst hl; rw [h2]; rfl
        · cases e
      · rw [if_neg h2] at e
        split at e
        · obtain ⟨y, hy, _⟩ := Option.map_eq_some_iff.1 e
          have := pr_last n l y (by simp at h; omega) hy
          rw [List.getLast?_cons]
          simp [this]
        · cases e

/-! ### Writing a value with its escapes -/
def escOne (c : UInt8) : List UInt8 := if qb c = true then [92, c] else [c]
def escL (v : List UInt8) : List UInt8 := v.flatMap escOne
theorem qb_cases {c : UInt8} (h : qb c = false) : c ≠ 34 ∧ c ≠ 92 := by
  constructor <;> (rintro rfl; revert h; decide)
theorem pr_esc : ∀ (v r : List UInt8), pr (escL v ++ r) = if v.all pri = true then (pr r).map (v ++ ·) else none
  | [], r => by simp [escL]
  | c :: v, r => by
    have ih := pr_esc v r
    have e : escL (c :: v) = escOne c ++ escL v := by simp [escL]
    rw [e, List.append_assoc, List.all_cons]
    unfold escOne
    cases hq : qb c
    · obtain ⟨h1, h2⟩ := qb_cases hq
      rw [if_neg (by simp), List.cons_append, List.nil_append, pr_cons, if_neg h2, if_neg h1]
      cases hp : pri c
      · simp
      · rw [if_pos rfl, ih]
        simp only [Bool.true_and]
        split
        · cases pr r with
          | none => rfl
          | some x => rfl
        · rfl
    · have hp : pri c = true := by
        have : c = 34 ∨ c = 92 := by simpa [qb] using hq
        rcases this with rfl | rfl <;> decide
      rw [if_pos rfl, List.cons_append, List.cons_append, List.nil_append, pr_cons, if_pos rfl, bsp_cons, if_pos hq, ih, hp]
      simp only [Bool.true_and]
      split
      · cases pr r with
        | none => rfl
        | some x => rfl
      · rfl
theorem pr_quote : pr [34] = some [] := by rw [pr_cons, if_neg (by decide), if_pos rfl, if_pos rfl]
theorem pr_tail {t : List UInt8} (h : t ≠ []) : pr (34 :: t) = none := by rw [pr_cons, if_neg (by decide), if_pos rfl, if_neg h]
theorem pr_value (v : List UInt8) : pr (escL v ++ [34]) = if v.all pri = true then some v else none := by
  rw [pr_esc, pr_quote]; simp
theorem pr_more (v : List UInt8) {t : List UInt8} (h : t ≠ []) : pr (escL v ++ 34 :: t) = none := by
  rw [pr_esc, pr_tail h]; simp

/-- The model's answer is the reading. -/
theorem model_law {l : List UInt8} (hn : 2 ≤ l.length) (hq : l.getLast? = some 34) : mr false true [] (l.dropLast.drop 1) = pr (l.drop 1) := by
  have hne : l ≠ [] := by rintro rfl; simp at hn
  have e : l = l.dropLast ++ [34] := by
    have h1 := List.getLast?_eq_some_getLast hne
    rw [hq] at h1
    have h2 := List.dropLast_concat_getLast hne
    rw [← Option.some.inj h1] at h2
    exact h2.symm
  have e2 : l.drop 1 = l.dropLast.drop 1 ++ [34] := by
    conv => lhs; rw [e]
    rw [List.drop_append_of_le_length (by simp; omega)]
  rw [e2, (mr_pr _ _ (Nat.le_refl _) []).1]
  cases pr (l.dropLast.drop 1 ++ [34]) <;> simp
theorem model_no {l : List UInt8} (hn : 2 ≤ l.length) (hq : l.getLast? ≠ some 34) : pr (l.drop 1) = none := by
  cases h : pr (l.drop 1) with
  | none => rfl
  | some v =>
    have := pr_last _ _ _ (Nat.le_refl _) h
    rw [List.getLast?_drop, if_neg (by omega)] at this
    exact absurd this hq
theorem model_short {l : List UInt8} (hn : ¬ 2 ≤ l.length) : pr (l.drop 1) = none := by
  rw [List.drop_eq_nil_of_le (by omega), pr_nil]
end Go.Proofs.Qxb6628904a
