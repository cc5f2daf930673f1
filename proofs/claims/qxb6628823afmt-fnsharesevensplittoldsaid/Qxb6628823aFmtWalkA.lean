/- The walks of the small functions and of balance.Shares. -/
import Derived.Test.Qxb6628823aFmtRows
import Derived.WalkKit
import Derived.WalkSpells
import Derived.WalkLawsBesides
import Derived.Deep.OwnRows
import Derived.Test.Qxb6628823aFmtPlain
namespace Go.Proofs.Qxb6628823aFmt
open Go.RowKit

theorem Tryf.info3 : (Tryf.prog.info? 3).map (fun i => (i.zero, i.size, i.bytes)) = some (some (.int .i64 0), 1, 8) := by kernel_rfl

set_option maxHeartbeats 400000 in
/-- zzBytes_FnSharesEvenSplit -/
theorem bytes5 (t : Int) (a : Option Addr) (n cap : Nat) (w : World) (hn : n ≤ 9223372036854775807) :
    Calls Tryf.prog 5 #[.int .i64 t, .slice a n cap] w fun e w' => e = .returned (.bool (decide (n ≤ 1048576))) ∧ w = w' := by
  by_cases h : n ≤ 1048576
  · go_enter Tryf.func5, Tryf.ntmps5
    go_wp2
    go_ret
    exact ⟨by simp [h], rfl⟩
  · go_enter Tryf.func5, Tryf.ntmps5
    go_wp2
    go_ret
    exact ⟨by simp [h], rfl⟩

set_option maxHeartbeats 400000 in
/-- zzBytes_FnSharesOneMore -/
theorem bytes8 (t : Int) (a : Option Addr) (n cap : Nat) (w : World) (hn : n ≤ 9223372036854775807) :
    Calls Tryf.prog 8 #[.int .i64 t, .slice a n cap] w fun e w' => e = .returned (.bool (decide (n ≤ 1048576))) ∧ w = w' := by
  by_cases h : n ≤ 1048576
  · go_enter Tryf.func8, Tryf.ntmps8
    go_wp2
    go_ret
    exact ⟨by simp [h], rfl⟩
  · go_enter Tryf.func8, Tryf.ntmps8
    go_wp2
    go_ret
    exact ⟨by simp [h], rfl⟩

set_option maxHeartbeats 400000 in
/-- zzCountPickedB1 at a nil slice -/
theorem count_nil (w : World) :
    Calls Tryf.prog 6 #[.slice none 0 0] w fun e w' => e = .returned (.int .i64 0) ∧ w = w' := by
  go_enter Tryf.func6, Tryf.ntmps6
  go_wp2
  go_loop [3, 4] (fun m i => m = .int .i64 0 ∧ i = .int .i64 0) (fun _ _ => 0)
  case atStart => exact ⟨rfl, rfl⟩
  case round =>
    obtain ⟨rfl, rfl⟩ := hrel
    go_wp2
    go_ret
    exact ⟨rfl, rfl⟩

set_option maxHeartbeats 400000 in
/-- zzCountPickedB1 -/
theorem count_any (g n cap : Nat) (B : Nat → Bool) (w : World) (hn : n ≤ 65536) (hc : ∀ i, i < n → w.cell? ⟨g, i, none⟩ = some (.bool (B i))) :
    Calls Tryf.prog 6 #[.slice (some ⟨g, 0, none⟩) n cap] w fun e w' => e = .returned (.int .i64 (cnt B n)) ∧ w = w' := by
  have HC : Hid (∀ i, i < n → w.cell? ⟨g, i, none⟩ = some (.bool (B i))) := hc
  clear hc
  go_enter Tryf.func6, Tryf.ntmps6
  go_wp2
  go_loop [3, 4] (fun m i => ∃ k : Nat, k ≤ n ∧ i = .int .i64 k ∧ m = .int .i64 (cnt B k)) (fun _ i => n - (intOf i).toNat)
  case atStart => exact ⟨0, Nat.zero_le _, rfl, rfl⟩
  case round =>
    obtain ⟨k, hk, rfl, rfl⟩ := hrel
    have hl := cnt_le B k
    by_cases hlt : k < n
    · have hcell := HC.out k hlt
      cases hb : B k
      · have HB : Hid (B k = false) := hb
        rw [hb] at hcell
        clear hb
        go_wp2
        go_round
        case rel => exact ⟨k + 1, by omega, by go_num, by rw [cnt_no HB.out]⟩
        case measure => simp [intOf]; omega
      · have HB : Hid (B k = true) := hb
        rw [hb] at hcell
        clear hb
        go_wp2
        go_round
        case rel => exact ⟨k + 1, by omega, by go_num, by rw [cnt_yes HB.out]; go_num⟩
        case measure => simp [intOf]; omega
    · have hkn : k = n := by omega
      subst hkn
      go_wp2
      go_ret
      exact ⟨rfl, rfl⟩
end Go.Proofs.Qxb6628823aFmt
