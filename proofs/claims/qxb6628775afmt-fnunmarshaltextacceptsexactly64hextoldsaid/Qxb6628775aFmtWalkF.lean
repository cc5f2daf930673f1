/- The walks of the second law's own small functions. -/
import Derived.Test.Qxb6628775aFmtWalkE
import Derived.Test.Qxb6628775aFmtPlainTwo
namespace Go.Proofs.Qxb6628775aFmt
open Go.RowKit Go.Extern.Stop Go.Stop Go.Extern

set_option maxHeartbeats 400000 in
/-- zzBytes -/
theorem bytes7 (c : Array Value) (a : Option Addr) (n cap : Nat) (w : World) (hn : n ≤ 9223372036854775807) :
    Calls Tryf.prog 7 #[.agg c, .slice a n cap] w fun e w' => e = .returned (.bool (decide (n ≤ 1048576))) ∧ Below w.heap.size w w' := by
  by_cases h : n ≤ 1048576
  · go_enter Tryf.func7, Tryf.ntmps7
    go_wp2
    go_ret
    exact ⟨by simp [h], (Below.refl _ _).alloc (Nat.le_refl _) _⟩
  · go_enter Tryf.func7, Tryf.ntmps7
    go_wp2
    go_ret
    exact ⟨by simp [h], (Below.refl _ _).alloc (Nat.le_refl _) _⟩

theorem ret_bool {a b : Bool} (h : a = b) : Ending.returned (.bool a) = .returned (.bool b) := by rw [h]
theorem ret_int {k : IntKind} {a b : Int} (h : a = b) : Ending.returned (.int k a) = .returned (.int k b) := by rw [h]

set_option maxHeartbeats 400000 in
/-- zzIsHexDigit -/
theorem hexdigit (c : UInt8) (w : World) :
    Calls Tryf.prog 13 #[.int .u8 (c.toNat : Int)] w fun e w' => e = .returned (.bool (isHex c)) ∧ w = w' := by
  have HC : Hid (isHex c = (decide (48 ≤ c.toNat ∧ c.toNat ≤ 57) || decide (97 ≤ c.toNat ∧ c.toNat ≤ 102) || decide (65 ≤ c.toNat ∧ c.toNat ≤ 70))) := isHex_eq c
  have hc := c.toNat_lt
  generalize isHex c = b at *
  generalize c.toNat = x at *
  go_enter Tryf.func13, Tryf.ntmps13
  go_wp2
  all_goals
    go_ret
    refine ⟨ret_bool ?_, rfl⟩
    rw [HC.out, Bool.eq_iff_iff]
    simp
    try omega

set_option maxHeartbeats 400000 in
/-- zzNibble -/
theorem nibble (c : UInt8) (w : World) (h : isHex c = true) :
    Calls Tryf.prog 9 #[.int .u8 (c.toNat : Int)] w fun e w' => e = .returned (.int .u8 (Lib.Hx.v c : Int)) ∧ w = w' := by
  have HV := v_eq c h
  have HC := isHex_eq c
  rw [h] at HC
  simp only [Bool.true_eq, Bool.or_eq_true, decide_eq_true_eq] at HC
  have hc := c.toNat_lt
  clear h
  generalize Lib.Hx.v c = v at *
  generalize c.toNat = x at *
  have HV' : Hid (v = if x ≤ 57 then x - 48 else if 97 ≤ x then x - 87 else x - 55) := HV
  clear HV
  rcases HC with (h | h) | h
  all_goals
    go_enter Tryf.func9, Tryf.ntmps9
    go_wp2
    go_ret
    refine ⟨ret_int ?_, rfl⟩
    rw [HV'.out]
    split <;> (try split) <;> omega

set_option maxHeartbeats 400000 in
/-- zzLowerHex -/
theorem lower (c : UInt8) (w : World) :
    Calls Tryf.prog 10 #[.int .u8 (c.toNat : Int)] w fun e w' => e = .returned (.int .u8 ((low c).toNat : Int)) ∧ w' = w := by
  have hc := c.toNat_lt
  have HL : Hid ((low c).toNat = if 65 ≤ c.toNat ∧ c.toNat ≤ 70 then c.toNat + 32 else c.toNat) := by
    show _ = _
    unfold low
    split
    · rw [UInt8.toNat_ofNat']; omega
    · rfl
  generalize (low c).toNat = v at *
  generalize c.toNat = x at *
  go_enter Tryf.func10, Tryf.ntmps10
  go_wp2
  all_goals
    go_ret
    refine ⟨ret_int ?_, rfl⟩
    rw [HL.out]
    split <;> omega

/-- The bytes l lie from place o of block b on. -/
def TxtAt (w : World) (b o : Nat) (l : List UInt8) : Prop := ∀ j (h : j < l.length), w.cell? ⟨b, o + j, none⟩ = some (.int .u8 (l[j].toNat : Int))

set_option maxHeartbeats 400000 in
/-- zzIsPeerHex at another length -/
theorem peerhex_short (a : Option Addr) (n cap : Nat) (w : World) (hn : n ≠ 64) :
    Calls Tryf.prog 8 #[.slice a n cap] w fun e w' => e = .returned (.bool false) ∧ w = w' := by
  have hne : ((n : Int) != 64) = true := by simp; omega
  go_enter Tryf.func8, Tryf.ntmps8
  go_wp2
  go_ret
  exact ⟨rfl, rfl⟩

set_option maxHeartbeats 1000000 in
/-- zzIsPeerHex at 64 bytes -/
theorem peerhex_full (b o cap : Nat) (l : List UInt8) (w : World) (hl : l.length = 64) (ht : TxtAt w b o l) :
    Calls Tryf.prog 8 #[.slice (some ⟨b, o, none⟩) 64 cap] w fun e w' => e = .returned (.bool (l.all isHex)) ∧ w = w' := by
  have HT : Hid (TxtAt w b o l) := ht
  have HL : Hid (l.length = 64) := hl
  clear ht hl
  go_enter Tryf.func8, Tryf.ntmps8
  go_wp2
  go_loop [3] (fun vi => ∃ k : Nat, k ≤ 64 ∧ vi = .int .i64 k ∧ Hid ((l.take k).all isHex = true)) (fun vi => 64 - (intOf vi).toNat)
  case atStart => exact ⟨0, Nat.zero_le _, rfl, by show _ = _; simp⟩
  case round =>
    obtain ⟨k, hk, rfl, hall⟩ := hrel
    by_cases hlt : k < 64
    · have hkl : k < l.length := by rw [HL.out]; exact hlt
      have hcell := HT.out k hkl
      have HS : Hid (l.take (k + 1) = l.take k ++ [l[k]]) := List.take_succ_eq_append_getElem hkl
      have HM : Hid (l[k] ∈ l) := List.getElem_mem hkl
      generalize l[k] = c at *
      cases hx : isHex c
      · go_wp2_with (go_at_call 13; refine (hexdigit c _).mono ?_; rintro e w' ⟨rfl, rfl⟩)
        go_ret
        refine ⟨ret_bool ?_, rfl⟩
        symm
        rw [List.all_eq_false]
        exact ⟨c, HM.out, by rw [hx]; simp⟩
      · have HX : Hid (isHex c = true) := hx
        go_wp2_with (go_at_call 13; refine (hexdigit c _).mono ?_; rintro e w' ⟨rfl, rfl⟩)
        go_round
        case rel => exact ⟨k + 1, by omega, by go_num, by show _ = _; rw [HS.out, List.all_append, hall.out]; simp [HX.out]⟩
        case measure => simp [intOf]; omega
    · have hk64 : k = 64 := by omega
      subst hk64
      go_wp2
      go_ret
      refine ⟨ret_bool ?_, rfl⟩
      have h1 := hall.out
      rw [List.take_of_length_le (by rw [HL.out]; omega)] at h1
      exact h1.symm
end Go.Proofs.Qxb6628775aFmt
