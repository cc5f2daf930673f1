/- The walks of the model's leaf functions. -/
import Derived.Test.Qxb6628866aWalkE
namespace Go.Proofs.Qxb6628866a
open Go.RowKit

set_option maxHeartbeats 400000 in
theorem zz_ws {w : World} (c : UInt8) :
    Calls Try.prog 33 #[.int .u8 (c.toNat : Int)] w fun e w' => e = .returned (.bool (ws c)) ∧ w = w' := by
  have HC : Hid (ws c = ((((c.toNat : Int)) == 32) || (((c.toNat : Int)) == 9) || (((c.toNat : Int)) == 10) || (((c.toNat : Int)) == 13))) := ws_eq c
  generalize ws c = b at *
  generalize c.toNat = x at *
  go_enter Try.func33, Try.ntmps33
  go_wp2
  all_goals
    go_ret
    refine ⟨ret_bool ?_, rfl⟩
    rw [HC.out, Bool.eq_iff_iff]
    try simp
    try omega

set_option maxHeartbeats 400000 in
theorem zz_hex {w : World} (c : UInt8) :
    Calls Try.prog 34 #[.int .u8 (c.toNat : Int)] w fun e w' => e = .returned (.bool (hexd c)) ∧ w = w' := by
  have hc := c.toNat_lt
  have HC : Hid (hexd c = ((decide (48 ≤ c.toNat) && decide (c.toNat ≤ 57)) || (decide (97 ≤ c.toNat) && decide (c.toNat ≤ 102)) || (decide (65 ≤ c.toNat) && decide (c.toNat ≤ 70)))) := rfl
  generalize hexd c = b at *
  generalize c.toNat = x at *
  go_enter Try.func34, Try.ntmps34
  go_wp2
  all_goals
    go_ret
    refine ⟨ret_bool ?_, rfl⟩
    rw [HC.out, Bool.eq_iff_iff]
    simp
    try omega

set_option maxHeartbeats 400000 in
theorem zz_dig {w : World} (c : UInt8) :
    Calls Try.prog 38 #[.int .u8 (c.toNat : Int)] w fun e w' => e = .returned (.bool (isDig c)) ∧ w = w' := by
  have hc := c.toNat_lt
  have HC : Hid (isDig c = (decide (48 ≤ c.toNat) && decide (c.toNat ≤ 57))) := rfl
  generalize isDig c = b at *
  generalize c.toNat = x at *
  go_enter Try.func38, Try.ntmps38
  go_wp2
  all_goals
    go_ret
    refine ⟨ret_bool ?_, rfl⟩
    rw [HC.out, Bool.eq_iff_iff]
    simp
    try omega

set_option maxHeartbeats 400000 in
theorem zz_closer {w : World} (c : UInt8) :
    Calls Try.prog 21 #[.int .u8 (c.toNat : Int)] w fun e w' => e = .returned (.int .u8 ((closer c).toNat : Int)) ∧ w = w' := by
  by_cases h : c = 123
  · subst h
    go_enter Try.func21, Try.ntmps21
    go_wp2
    go_ret
    exact ⟨rfl, rfl⟩
  · have e := ne_beq 123 h
    have hcl : closer c = 93 := if_neg h
    rw [hcl]
    clear h
    go_enter Try.func21, Try.ntmps21
    go_wp2
    go_ret
    exact ⟨rfl, rfl⟩

set_option maxHeartbeats 400000 in
theorem zz_acc {w : World} (s : Nat) :
    Calls Try.prog 36 #[.int .i64 (s : Int)] w fun e w' => e = .returned (.bool (numAcc s)) ∧ w = w' := by
  have HC : Hid (numAcc s = (s == 2 || s == 3 || s == 5 || s == 8)) := rfl
  generalize numAcc s = b at *
  go_enter Try.func36, Try.ntmps36
  go_wp2
  all_goals
    go_ret
    refine ⟨ret_bool ?_, rfl⟩
    rw [HC.out, Bool.eq_iff_iff]
    simp
    try omega

/-- The automaton's step as Go answers it. -/
def nsInt : Option Nat → Int
  | some s => s
  | none => -1
def numStepN (st x : Nat) : Int :=
  if st = 0 then (if x = 45 then 1 else if x = 48 then 2 else if 48 ≤ x ∧ x ≤ 57 then 3 else -1)
  else if st = 1 then (if x = 48 then 2 else if 48 ≤ x ∧ x ≤ 57 then 3 else -1)
  else if st = 2 then (if x = 46 then 4 else if x = 101 ∨ x = 69 then 6 else -1)
  else if st = 3 then (if 48 ≤ x ∧ x ≤ 57 then 3 else if x = 46 then 4 else if x = 101 ∨ x = 69 then 6 else -1)
  else if st = 4 then (if 48 ≤ x ∧ x ≤ 57 then 5 else -1)
  else if st = 5 then (if 48 ≤ x ∧ x ≤ 57 then 5 else if x = 101 ∨ x = 69 then 6 else -1)
  else if st = 6 then (if x = 43 ∨ x = 45 then 7 else if 48 ≤ x ∧ x ≤ 57 then 8 else -1)
  else if st = 7 then (if 48 ≤ x ∧ x ≤ 57 then 8 else -1)
  else if st = 8 then (if 48 ≤ x ∧ x ≤ 57 then 8 else -1)
  else -1
theorem nsN0 (x : Nat) : numStepN 0 x = (if x = 45 then 1 else if x = 48 then 2 else if 48 ≤ x ∧ x ≤ 57 then 3 else -1) := rfl
theorem nsN1 (x : Nat) : numStepN 1 x = (if x = 48 then 2 else if 48 ≤ x ∧ x ≤ 57 then 3 else -1) := rfl
theorem nsN2 (x : Nat) : numStepN 2 x = (if x = 46 then 4 else if x = 101 ∨ x = 69 then 6 else -1) := rfl
theorem nsN3 (x : Nat) : numStepN 3 x = (if 48 ≤ x ∧ x ≤ 57 then 3 else if x = 46 then 4 else if x = 101 ∨ x = 69 then 6 else -1) := rfl
theorem nsN4 (x : Nat) : numStepN 4 x = (if 48 ≤ x ∧ x ≤ 57 then 5 else -1) := rfl
theorem nsN5 (x : Nat) : numStepN 5 x = (if 48 ≤ x ∧ x ≤ 57 then 5 else if x = 101 ∨ x = 69 then 6 else -1) := rfl
theorem nsN6 (x : Nat) : numStepN 6 x = (if x = 43 ∨ x = 45 then 7 else if 48 ≤ x ∧ x ≤ 57 then 8 else -1) := rfl
theorem nsN7 (x : Nat) : numStepN 7 x = (if 48 ≤ x ∧ x ≤ 57 then 8 else -1) := rfl
theorem nsN8 (x : Nat) : numStepN 8 x = (if 48 ≤ x ∧ x ≤ 57 then 8 else -1) := rfl
theorem toNat_is (c : UInt8) (k : Nat) (hk : k < 256) : (c.toNat = k) = (c = UInt8.ofNat k) := by
  apply propext
  constructor
  · intro e
    rw [← e]
    simp
  · intro e
    rw [e, UInt8.toNat_ofNat']
    omega
theorem numStep_nat (st : Nat) (c : UInt8) : nsInt (numStep st c) = numStepN st c.toNat := by
  have hd : (48 ≤ c.toNat ∧ c.toNat ≤ 57) = (isDig c = true) := by simp [isDig]
  unfold numStep numStepN
  simp only [hd, toNat_is c 45 (by omega), toNat_is c 48 (by omega), toNat_is c 46 (by omega), toNat_is c 101 (by omega), toNat_is c 69 (by omega), toNat_is c 43 (by omega), show UInt8.ofNat 45 = 45 from rfl, show UInt8.ofNat 48 = 48 from rfl, show UInt8.ofNat 46 = 46 from rfl, show UInt8.ofNat 101 = 101 from rfl, show UInt8.ofNat 69 = 69 from rfl, show UInt8.ofNat 43 = 43 from rfl, apply_ite nsInt]
  rfl

set_option maxHeartbeats 2000000 in
theorem zz_step {w : World} (s : Nat) (c : UInt8) (hs : s ≤ 8) :
    Calls Try.prog 35 #[.int .i64 (s : Int), .int .u8 (c.toNat : Int)] w fun e w' => e = .returned (.int .i64 (nsInt (numStep s c))) ∧ w = w' := by
  rw [numStep_nat]
  have HD : Hid (Calls Try.prog 38 #[.int .u8 (c.toNat : Int)] w fun e w' => e = .returned (.bool (isDig c)) ∧ w = w') := zz_dig c
  have HE : Hid (isDig c = true ↔ 48 ≤ c.toNat ∧ c.toNat ≤ 57) := (by simp [isDig] : isDig c = true ↔ 48 ≤ c.toNat ∧ c.toNat ≤ 57)
  have hc := c.toNat_lt
  generalize isDig c = b at *
  generalize c.toNat = x at *
  have hs2 : s = 0 ∨ s = 1 ∨ s = 2 ∨ s = 3 ∨ s = 4 ∨ s = 5 ∨ s = 6 ∨ s = 7 ∨ s = 8 := by omega
  cases b <;> rcases hs2 with rfl | rfl | rfl | rfl | rfl | rfl | rfl | rfl | rfl
  all_goals
    go_enter Try.func35, Try.ntmps35
    go_wp2_with (first | (go_at_call 38; refine HD.out.mono ?_; rintro e w' ⟨rfl, rfl⟩))
    all_goals
      go_ret
      refine ⟨ret_int ?_, rfl⟩
      have he := HE.out
      clear HD HE
      simp only [Bool.false_eq_true, false_iff, true_iff] at he
      try simp only [beq_iff_eq, beq_eq_false_iff_ne, ne_eq] at *
      simp only [nsN0, nsN1, nsN2, nsN3, nsN4, nsN5, nsN6, nsN7, nsN8]
      repeat' split
      all_goals first | rfl | omega
end Go.Proofs.Qxb6628866a
