/- The plain law of the second statement: which texts are read, and what they give. -/
import Derived.Test.Qxb6628775aFmtPlain
namespace Go.Proofs.Qxb6628775aFmt
open Go.Lib

/-- A hexadecimal digit, in either case. -/
def isHex (c : UInt8) : Bool := decide (Hx.v c ≤ 15)
/-- The law's own turn to lower case. -/
def low (c : UInt8) : UInt8 := if 65 ≤ c.toNat ∧ c.toNat ≤ 70 then UInt8.ofNat (c.toNat + 32) else c

theorem all_bytes {p : UInt8 → Prop} (h : ∀ i : Fin 256, p (UInt8.ofNat i.val)) (c : UInt8) : p c := by
  have := h ⟨c.toNat, c.toNat_lt⟩
  simpa using this

set_option maxRecDepth 100000 in
theorem isHex_fin : ∀ i : Fin 256, isHex (UInt8.ofNat i.val) = (decide (48 ≤ i.val ∧ i.val ≤ 57) || decide (97 ≤ i.val ∧ i.val ≤ 102) || decide (65 ≤ i.val ∧ i.val ≤ 70)) := by decide +kernel
theorem isHex_eq (c : UInt8) : isHex c = (decide (48 ≤ c.toNat ∧ c.toNat ≤ 57) || decide (97 ≤ c.toNat ∧ c.toNat ≤ 102) || decide (65 ≤ c.toNat ∧ c.toNat ≤ 70)) := by
  have := isHex_fin ⟨c.toNat, c.toNat_lt⟩
  simpa using this

set_option maxRecDepth 100000 in
theorem v_fin : ∀ i : Fin 256, isHex (UInt8.ofNat i.val) = true → Hx.v (UInt8.ofNat i.val) = if i.val ≤ 57 then i.val - 48 else if 97 ≤ i.val then i.val - 87 else i.val - 55 := by decide +kernel
theorem v_eq (c : UInt8) (h : isHex c = true) : Hx.v c = if c.toNat ≤ 57 then c.toNat - 48 else if 97 ≤ c.toNat then c.toNat - 87 else c.toNat - 55 := by
  have := v_fin ⟨c.toNat, c.toNat_lt⟩
  simp only [UInt8.ofNat_toNat] at this
  exact this h

set_option maxRecDepth 100000 in
theorem low_fin : ∀ i : Fin 256, isHex (UInt8.ofNat i.val) = true → Hx.digit (Hx.v (UInt8.ofNat i.val)) = low (UInt8.ofNat i.val) := by decide +kernel
theorem low_eq (c : UInt8) (h : isHex c = true) : Hx.digit (Hx.v c) = low c := by
  have := low_fin ⟨c.toNat, c.toNat_lt⟩
  simp only [UInt8.ofNat_toNat] at this
  exact this h

/-- The bytes that pairs of digits write. -/
def pairs : List UInt8 → List UInt8
  | p :: q :: t => UInt8.ofNat (Hx.v p * 16 + Hx.v q) :: pairs t
  | _ => []

theorem decode_pairs : ∀ (n : Nat) (l : List UInt8), l.length = 2 * n → (∀ c ∈ l, isHex c = true) → Hx.decode l = (pairs l, .ok)
  | 0, l, h, _ => by
    have : l = [] := List.eq_nil_of_length_eq_zero (by omega)
    subst this
    exact Hx.decode_nil
  | n + 1, l, h, ha => by
    match l, h with
    | p :: q :: t, h =>
      have hp : isHex p = true := ha p (by simp)
      have hq : isHex q = true := ha q (by simp)
      simp only [isHex, decide_eq_true_eq] at hp hq
      rw [Hx.decode_two, if_neg (by omega), if_neg (by omega), decode_pairs n t (by simp at h; omega) (fun c hc => ha c (by simp [hc]))]
      rfl

theorem decode_not : ∀ (n : Nat) (l : List UInt8), l.length = 2 * n → ¬ (∀ c ∈ l, isHex c = true) → ∃ D c, Hx.decode l = (D, .bad c)
  | 0, l, h, ha => by
    have : l = [] := List.eq_nil_of_length_eq_zero (by omega)
    subst this
    exact absurd (by simp) ha
  | n + 1, l, h, ha => by
    match l, h with
    | p :: q :: t, h =>
      rw [Hx.decode_two]
      by_cases h1 : 15 < Hx.v p
      · rw [if_pos h1]; exact ⟨_, _, rfl⟩
      · rw [if_neg h1]
        by_cases h2 : 15 < Hx.v q
        · rw [if_pos h2]; exact ⟨_, _, rfl⟩
        · rw [if_neg h2]
          obtain ⟨D, c, e⟩ := decode_not n t (by simp at h; omega) (fun hc => ha (fun c hm => by
            rcases List.mem_cons.1 hm with rfl | hm
            · simp [isHex]; omega
            · rcases List.mem_cons.1 hm with rfl | hm
              · simp [isHex]; omega
              · exact hc c hm))
          rw [e]
          exact ⟨_, c, rfl⟩

theorem pairs_length : ∀ (n : Nat) (l : List UInt8), l.length = 2 * n → (pairs l).length = n
  | 0, l, h => by
    have : l = [] := List.eq_nil_of_length_eq_zero (by omega)
    subst this
    rfl
  | n + 1, l, h => by
    match l, h with
    | p :: q :: t, h =>
      simp only [pairs, List.length_cons]
      rw [pairs_length n t (by simp at h; omega)]

theorem pairs_at : ∀ (k : Nat) (l : List UInt8) (h : 2 * k + 1 < l.length), (pairs l)[k]? = some (UInt8.ofNat (Hx.v l[2 * k] * 16 + Hx.v l[2 * k + 1]))
  | 0, l, h => by
    match l, h with
    | p :: q :: t, h => rfl
  | k + 1, l, h => by
    match l, h with
    | p :: q :: t, h =>
      have ih := pairs_at k t (by simp at h; omega)
      simp only [pairs, List.getElem?_cons_succ]
      rw [ih]
      congr 2

theorem encode_pairs : ∀ (n : Nat) (l : List UInt8), l.length = 2 * n → (∀ c ∈ l, isHex c = true) → Hx.encode (pairs l) = l.map low
  | 0, l, h, _ => by
    have : l = [] := List.eq_nil_of_length_eq_zero (by omega)
    subst this
    rfl
  | n + 1, l, h, ha => by
    match l, h with
    | p :: q :: t, h =>
      have hp : isHex p = true := ha p (by simp)
      have hq : isHex q = true := ha q (by simp)
      have ep := low_eq p hp
      have eq := low_eq q hq
      simp only [isHex, decide_eq_true_eq] at hp hq
      simp only [pairs, List.map_cons]
      rw [Hx.encode_cons, encode_pairs n t (by simp at h; omega) (fun c hc => ha c (by simp [hc])), UInt8.toNat_ofNat']
      rw [show (Hx.v p * 16 + Hx.v q) % 2 ^ 8 / 16 = Hx.v p by omega, show (Hx.v p * 16 + Hx.v q) % 2 ^ 8 % 16 = Hx.v q by omega, ep, eq]
end Go.Proofs.Qxb6628775aFmt
