/- The plain part: the pushdown machine over a list of bytes, with no Go in sight. -/
import Derived.WalkKit
namespace Go.Proofs.Qxb6628866a

def ws (c : UInt8) : Bool := c == 32 || c == 9 || c == 10 || c == 13
def wsLen : List UInt8 → Nat
  | [] => 0
  | c :: l => if ws c = true then wsLen l + 1 else 0
/-- The place behind the white space at p. -/
def skip (t : List UInt8) (p : Nat) : Nat := p + wsLen (t.drop p)

def isDig (c : UInt8) : Bool := decide (48 ≤ c.toNat) && decide (c.toNat ≤ 57)
def hexd (c : UInt8) : Bool := (decide (48 ≤ c.toNat) && decide (c.toNat ≤ 57)) || (decide (97 ≤ c.toNat) && decide (c.toNat ≤ 102)) || (decide (65 ≤ c.toNat) && decide (c.toNat ≤ 70))
def esc (c : UInt8) : Bool := c == 34 || c == 92 || c == 47 || c == 98 || c == 102 || c == 110 || c == 114 || c == 116
def hex4 (a b c d : UInt8) : Bool := hexd a && hexd b && hexd c && hexd d

/-- How many bytes of l a string takes behind its opening quote, the closing one counted in. -/
def strLen : List UInt8 → Option Nat
  | [] => none
  | c :: l =>
    if c = 34 then some 1
    else if c.toNat < 32 then none
    else if c ≠ 92 then (strLen l).map (· + 1)
    else match l with
      | [] => none
      | e :: l' =>
        if e = 117 then
          match l' with
          | h1 :: h2 :: h3 :: h4 :: r => if hex4 h1 h2 h3 h4 = true then (strLen r).map (· + 6) else none
          | _ => none
        else if esc e = true then (strLen l').map (· + 2) else none

/-- The number's automaton. -/
def numStep (st : Nat) (c : UInt8) : Option Nat :=
  if st = 0 then (if c = 45 then some 1 else if c = 48 then some 2 else if isDig c = true then some 3 else none)
  else if st = 1 then (if c = 48 then some 2 else if isDig c = true then some 3 else none)
  else if st = 2 then (if c = 46 then some 4 else if c = 101 ∨ c = 69 then some 6 else none)
  else if st = 3 then (if isDig c = true then some 3 else if c = 46 then some 4 else if c = 101 ∨ c = 69 then some 6 else none)
  else if st = 4 then (if isDig c = true then some 5 else none)
  else if st = 5 then (if isDig c = true then some 5 else if c = 101 ∨ c = 69 then some 6 else none)
  else if st = 6 then (if c = 43 ∨ c = 45 then some 7 else if isDig c = true then some 8 else none)
  else if st = 7 then (if isDig c = true then some 8 else none)
  else if st = 8 then (if isDig c = true then some 8 else none)
  else none
def numAcc (st : Nat) : Bool := st == 2 || st == 3 || st == 5 || st == 8
/-- How many bytes it takes, and where it then stands. -/
def numRun : Nat → List UInt8 → Nat × Nat
  | st, [] => (0, st)
  | st, c :: l => match numStep st c with
    | none => (0, st)
    | some s => ((numRun s l).1 + 1, (numRun s l).2)

def closer (k : UInt8) : UInt8 := if k = 123 then 125 else 93
def wTrue : List UInt8 := [116, 114, 117, 101]
def wFalse : List UInt8 := [102, 97, 108, 115, 101]
def wNull : List UInt8 := [110, 117, 108, 108]

/-- A state: the mode, the place, the open containers. A result: was it a value, the place, how much deeper. -/
abbrev State := Nat × Nat × List UInt8
abbrev Res := Bool × Nat × Nat

def numOut (t : List UInt8) (p : Nat) (st : List UInt8) : Res ⊕ State :=
  if numAcc (numRun 0 (t.drop p)).2 = true then .inr (2, p + (numRun 0 (t.drop p)).1, st) else .inl (false, p + (numRun 0 (t.drop p)).1, 0)
def litOut (w t : List UInt8) (p : Nat) (st : List UInt8) : Res ⊕ State :=
  if w.isPrefixOf (t.drop p) = true then .inr (2, p + w.length, st) else .inl (false, p, 0)
def strOut (t : List UInt8) (p : Nat) (st : List UInt8) : Res ⊕ State :=
  match strLen (t.drop (p + 1)) with
  | some k => .inr (2, p + 1 + k, st)
  | none => .inl (false, p + 1, 0)
def openOut (t : List UInt8) (d0 p : Nat) (c : UInt8) (st : List UInt8) : Res ⊕ State :=
  if 10000 < st.length + 1 + d0 then .inl (false, p + 1, 1)
  else if t[skip t (p + 1)]? = some (closer c) then .inr (2, skip t (p + 1) + 1, st)
  else .inr (if c = 123 then 1 else 0, skip t (p + 1), c :: st)
def valOut (t : List UInt8) (d0 p : Nat) (st : List UInt8) : Res ⊕ State :=
  match t[p]? with
  | none => .inl (false, p, 0)
  | some c =>
    if c = 123 ∨ c = 91 then openOut t d0 p c st
    else if c = 34 then strOut t p st
    else if c = 116 then litOut wTrue t p st
    else if c = 102 then litOut wFalse t p st
    else if c = 110 then litOut wNull t p st
    else numOut t p st
def nameOut (t : List UInt8) (p : Nat) (st : List UInt8) : Res ⊕ State :=
  if t[p]? = some 34 then
    match strLen (t.drop (p + 1)) with
    | none => .inl (false, p + 1, 0)
    | some k => if t[skip t (p + 1 + k)]? = some 58 then .inr (0, skip t (skip t (p + 1 + k) + 1), st) else .inl (false, skip t (p + 1 + k), 0)
  else .inl (false, p, 0)
def endOut (t : List UInt8) (p : Nat) (st : List UInt8) : Res ⊕ State :=
  match st with
  | [] => .inl (true, p, 0)
  | k :: st' =>
    if t[skip t p]? = some (closer k) then .inr (2, skip t p + 1, st')
    else if t[skip t p]? = some 44 then .inr (if k = 123 then 1 else 0, skip t (skip t p + 1), k :: st')
    else .inl (false, skip t p, 0)

/-- One step of the machine. -/
def step (t : List UInt8) (d0 : Nat) (s : State) : Res ⊕ State :=
  if s.1 = 0 then valOut t d0 s.2.1 s.2.2 else if s.1 = 1 then nameOut t s.2.1 s.2.2 else endOut t s.2.1 s.2.2

def steps (t : List UInt8) (d0 : Nat) : Nat → State → Res ⊕ State
  | 0, s => .inr s
  | k + 1, s => match step t d0 s with
    | .inl r => .inl r
    | .inr s' => steps t d0 k s'
def Reaches (t : List UInt8) (d0 : Nat) (s s' : State) : Prop := ∃ k, steps t d0 k s = .inr s'
def Halts (t : List UInt8) (d0 : Nat) (s : State) (r : Res) : Prop := ∃ k, steps t d0 k s = .inl r

theorem Reaches.refl (t : List UInt8) (d0 : Nat) (s : State) : Reaches t d0 s s := ⟨0, rfl⟩
theorem Reaches.head {t : List UInt8} {d0 : Nat} {s s' s'' : State} (h : step t d0 s = .inr s') (k : Reaches t d0 s' s'') : Reaches t d0 s s'' := by
  obtain ⟨n, e⟩ := k
  exact ⟨n + 1, by simp only [steps, h]; exact e⟩
theorem Halts.head {t : List UInt8} {d0 : Nat} {s s' : State} {r : Res} (h : step t d0 s = .inr s') (k : Halts t d0 s' r) : Halts t d0 s r := by
  obtain ⟨n, e⟩ := k
  exact ⟨n + 1, by simp only [steps, h]; exact e⟩
theorem Halts.now {t : List UInt8} {d0 : Nat} {s : State} {r : Res} (h : step t d0 s = .inl r) : Halts t d0 s r := ⟨1, by simp only [steps, h]⟩
theorem Reaches.one {t : List UInt8} {d0 : Nat} {s s' : State} (h : step t d0 s = .inr s') : Reaches t d0 s s' := Reaches.head h (Reaches.refl _ _ _)

theorem steps_trans {t : List UInt8} {d0 : Nat} : ∀ (k : Nat) (s s' : State) (m : Nat), steps t d0 k s = .inr s' → steps t d0 (k + m) s = steps t d0 m s'
  | 0, s, s', m, h => by
    simp only [steps, Sum.inr.injEq] at h
    subst h
    rw [Nat.zero_add]
  | k + 1, s, s', m, h => by
    rw [Nat.add_right_comm]
    simp only [steps] at h ⊢
    cases hs : step t d0 s with
    | inl r => rw [hs] at h; cases h
    | inr s1 =>
      rw [hs] at h
      exact steps_trans k s1 s' m h
theorem Reaches.trans {t : List UInt8} {d0 : Nat} {a b c : State} (h : Reaches t d0 a b) (k : Reaches t d0 b c) : Reaches t d0 a c := by
  obtain ⟨n, e⟩ := h
  obtain ⟨m, e2⟩ := k
  exact ⟨n + m, by rw [steps_trans n a b m e]; exact e2⟩
theorem Reaches.halts {t : List UInt8} {d0 : Nat} {a b : State} {r : Res} (h : Reaches t d0 a b) (k : Halts t d0 b r) : Halts t d0 a r := by
  obtain ⟨n, e⟩ := h
  obtain ⟨m, e2⟩ := k
  exact ⟨n + m, by rw [steps_trans n a b m e]; exact e2⟩
theorem steps_stay {t : List UInt8} {d0 : Nat} : ∀ (k : Nat) (s : State) (r : Res) (m : Nat), steps t d0 k s = .inl r → steps t d0 (k + m) s = .inl r
  | 0, s, r, m, h => by simp [steps] at h
  | k + 1, s, r, m, h => by
    rw [Nat.add_right_comm]
    simp only [steps] at h ⊢
    cases hs : step t d0 s with
    | inl r' => rw [hs] at h; exact h
    | inr s1 =>
      rw [hs] at h
      exact steps_stay k s1 r m h
/-- The machine has one result. -/
theorem Halts.unique {t : List UInt8} {d0 : Nat} {s : State} {r r' : Res} (h : Halts t d0 s r) (h' : Halts t d0 s r') : r = r' := by
  obtain ⟨n, e⟩ := h
  obtain ⟨m, e'⟩ := h'
  have h1 := steps_stay n s r m e
  have h2 := steps_stay m s r' n e'
  rw [Nat.add_comm m n, h1] at h2
  exact Sum.inl.inj h2

/-! ### Places -/
theorem drop_cons {t : List UInt8} {p : Nat} (h : p < t.length) : t.drop p = t[p] :: t.drop (p + 1) := List.drop_eq_getElem_cons h
theorem at_lt {t : List UInt8} {p : Nat} (h : p < t.length) : t[p]? = some t[p] := List.getElem?_eq_getElem h
theorem at_ge {t : List UInt8} {p : Nat} (h : ¬ p < t.length) : t[p]? = none := List.getElem?_eq_none (by omega)

theorem wsLen_le (l : List UInt8) : wsLen l ≤ l.length := by
  induction l with
  | nil => simp [wsLen]
  | cons c l ih => simp only [wsLen, List.length_cons]; split <;> omega
theorem skip_ge (t : List UInt8) (p : Nat) : p ≤ skip t p := by unfold skip; omega
theorem skip_le (t : List UInt8) (p : Nat) (h : p ≤ t.length) : skip t p ≤ t.length := by
  unfold skip
  have := wsLen_le (t.drop p)
  rw [List.length_drop] at this
  omega
theorem skip_yes {t : List UInt8} {p : Nat} (h : p < t.length) (hw : ws t[p] = true) : skip t p = skip t (p + 1) := by
  unfold skip
  rw [drop_cons h, wsLen, if_pos hw]
  omega
theorem skip_no {t : List UInt8} {p : Nat} (h : p < t.length) (hw : ws t[p] = false) : skip t p = p := by
  unfold skip
  rw [drop_cons h, wsLen, if_neg (by rw [hw]; simp)]
  omega
theorem skip_end {t : List UInt8} {p : Nat} (h : ¬ p < t.length) : skip t p = p := by
  unfold skip
  rw [List.drop_eq_nil_of_le (by omega), wsLen]
  omega
end Go.Proofs.Qxb6628866a
