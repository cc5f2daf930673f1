/- The walk of FnSharesOneMore. -/
import Derived.Test.Qxb6628823aFmtWalkC
import Derived.Test.Qxb6628823aFmtPlainTwo
import Derived.Deep.QuietTactic
import Derived.BigQuiet
namespace Go.Proofs.Qxb6628823aFmt
open Go.RowKit

set_option maxHeartbeats 1000000 in
theorem more_any (t : Int) (a : Option Addr) (n cap : Nat) (B : Nat → Bool) (w : World) (ht : (Lit.int .i64 t).wf = true) (ha : IsBools w a n cap B) :
    Calls Tryf.prog 4 #[.int .i64 t, .slice a n cap] w fun e w' => e = .returned (.bool true) ∧ Below w.heap.size w w' := by
  have hcm : cap ≤ maxLen := by rcases ha with ⟨_, _, rfl⟩ | ⟨x, _, _, h, _⟩ <;> first | exact h | exact Nat.zero_le _
  have hnm : n ≤ 9223372036854775807 := by
    unfold maxLen at hcm
    rcases ha with ⟨_, rfl, rfl⟩ | ⟨x, _, h, _⟩ <;> omega
  have htb : -9223372036854775808 ≤ t ∧ t ≤ 9223372036854775807 := by
    simp [Lit.wf, IntKind.min, IntKind.max, IntKind.signed, IntKind.bits] at ht
    omega
  obtain ⟨ht1, ht2⟩ := htb
  by_cases hn : n ≤ 65536
  · have hd : n ≤ 1048576 := by omega
    by_cases hneg : t < 0
    · have hdn : decide (t < 0) = true := by simpa using hneg
      go_enter Tryf.func4, Tryf.ntmps4
      go_wp2_with (go_at_call 8; refine (bytes8 _ _ _ _ _ hnm).mono ?_; rintro e w' ⟨rfl, rfl⟩)
      go_ret
      exact ⟨rfl, Below.refl _ _⟩
    · have hdn : decide (t < 0) = false := by simpa using hneg
      by_cases hbig : 9223372036854775806 < t
      · go_enter Tryf.func4, Tryf.ntmps4
        go_wp2_with (go_at_call 8; refine (bytes8 _ _ _ _ _ hnm).mono ?_; rintro e w' ⟨rfl, rfl⟩)
        go_ret
        exact ⟨rfl, Below.refl _ _⟩
      · rcases ha with ⟨rfl, rfl, rfl⟩ | ⟨x, rfl, hl, _, hcell⟩
        · go_enter Tryf.func4, Tryf.ntmps4
          go_wp2_with (first | (go_at_call 8; refine (bytes8 _ _ _ _ _ hnm).mono ?_; rintro e w' ⟨rfl, rfl⟩) | (go_at_call 6; refine (count_nil _).mono ?_; rintro e w' ⟨rfl, rfl⟩))
          go_ret
          exact ⟨rfl, Below.refl _ _⟩
        · have hmk := run_make_row' (P := Tryf.prog) 22 4 (.bool false) 1 Tryf.underlying22 Tryf.info4 rfl .i64 .i64 n (by omega) (by omega)
          have hcp := copy_fresh w x n cap B (fun i hi => hcell i (by omega))
          have HCB : Hid (∀ i, i < n → (w.alloc (.cells (bools B n) 4)).cell? ⟨w.heap.size, i, none⟩ = some (.bool (B i))) := fun i hi => bools_cell w B n i hi
          have hbel : Below w.heap.size w (w.alloc (.cells (bools B n) 4)) := (Below.refl _ _).alloc (Nat.le_refl _) _
          have hcl := cnt_le B n
          clear hcell
          by_cases hm : cnt B n = 0
          · have hm0 : ((cnt B n : Int) == 0) = true := by simp [hm]
            go_enter Tryf.func4, Tryf.ntmps4
            go_wp2_with (first | (go_at_call 8; refine (bytes8 _ _ _ _ _ hnm).mono ?_; rintro e w' ⟨rfl, rfl⟩) | (go_at_call 6; refine (count_any _ _ _ B _ hn HCB.out).mono ?_; rintro e w' ⟨rfl, rfl⟩))
            go_ret
            exact ⟨rfl, hbel⟩
          · have hm0 : ((cnt B n : Int) == 0) = false := by simp [hm]
            have hm1 : 0 < cnt B n := by omega
            have hr0 : 0 ≤ t % (cnt B n : Int) := Int.emod_nonneg _ (by omega)
            have hr1 : t % (cnt B n : Int) < cnt B n := Int.emod_lt_of_pos _ (by omega)
            obtain ⟨R, hR⟩ : ∃ R, R = t % (cnt B n : Int) := ⟨_, rfl⟩
            have HRR : Hid (R = t % (cnt B n : Int)) := hR
            rw [← hR] at hr0 hr1
            clear hR
            go_enter Tryf.func4, Tryf.ntmps4
            go_wp2_with (first | (go_at_call 8; refine (bytes8 _ _ _ _ _ hnm).mono ?_; rintro e w' ⟨rfl, rfl⟩) | (go_at_call 6; refine (count_any _ _ _ B _ hn HCB.out).mono ?_; rintro e w' ⟨rfl, rfl⟩))
            rw [← HRR.out]
            clear hcp hmk
            go_loop [8, 9, 10] (fun vj vs vi => ∃ k : Nat, k ≤ n ∧ vi = .int .i64 k ∧ vs = .int .i64 (cnt B k) ∧ vj = .int .i64 (-1) ∧ (cnt B k : Int) ≤ R) (fun _ _ i => n - (intOf i).toNat)
            case atStart => exact ⟨0, Nat.zero_le _, rfl, rfl, rfl, by simpa [cnt] using hr0⟩
            case round =>
              obtain ⟨k, hk, rfl, rfl, rfl, hkR⟩ := hrel
              have hck := cnt_le B k
              by_cases hlt : k < n
              · have hcell := HCB.out k hlt
                cases hb : B k
                · have HB : Hid (B k = false) := hb
                  rw [hb] at hcell
                  clear hb
                  go_wp2
                  go_round
                  case rel => exact ⟨k + 1, by omega, by go_num, by rw [cnt_no HB.out], rfl, by rw [cnt_no HB.out]; exact hkR⟩
                  case measure => simp [intOf]; omega
                · have HB : Hid (B k = true) := hb
                  rw [hb] at hcell
                  clear hb
                  by_cases he : (cnt B k : Int) = R
                  · have hee : ((cnt B k : Int) == R) = true := by simpa using he
                    have HE : Hid ((cnt B k : Int) = R) := he
                    clear he
                    go_wp2_with fail
                    have hsz : (w.alloc (.cells (bools B n) 4)).heap.size = w.heap.size + 1 := by simp
                    refine (shares_any t w.heap.size n n B _ (by omega) ht2 hn (by simp) HCB.out (by omega)).mono ?_
                    rintro e w2 ⟨rfl, hrow2, hbel2⟩
                    rw [hsz] at hrow2 hbel2
                    rw [hsz]
                    have HR2 : Hid (w2.rowIs (w.heap.size + 1) 3 n (fun i => .int .i64 (share B (t / cnt B n) (t % cnt B n) i))) := hrow2
                    have hs2 := hrow2.lt
                    have HCB2 : Hid (∀ i, i < n → w2.cell? ⟨w.heap.size, i, none⟩ = some (.bool (B i))) := fun i hi => (hbel2.cell (p := ⟨w.heap.size, i, none⟩) (by simp)).trans (HCB.out i hi)
                    have HB2 : Hid (Below w.heap.size w w2) := hbel.trans (hbel2.mono (by omega))
                    clear hrow2 hbel2 hsz hbel HCB
                    go_wp2_with fail
                    refine (shares_any (t + 1) w.heap.size n n B w2 (by omega) (by omega) hn (by omega) HCB2.out (by omega)).mono ?_
                    rintro e w3 ⟨rfl, hrow3, hbel3⟩
                    have HR3 : Hid (w3.rowIs w2.heap.size 3 n (fun i => .int .i64 (share B ((t + 1) / cnt B n) ((t + 1) % cnt B n) i))) := hrow3
                    have HR2' : Hid (w3.rowIs (w.heap.size + 1) 3 n (fun i => .int .i64 (share B (t / cnt B n) (t % cnt B n) i))) := HR2.out.of_block (hbel3.block _ hs2)
                    have HB3 : Hid (Below w.heap.size w w3) := HB2.out.trans (hbel3.mono (by omega))
                    clear hrow3 hbel3 HR2 HCB2 HB2
                    have hkk : decide ((k : Int) < 0) = false := by simp
                    have HBk : Hid ((cnt B k : Int) = t % cnt B n) := by show _ = _; rw [← HRR.out]; exact HE.out
                    have hkn := hlt
                    clear hcell hck hee hkR hlt hk
                    go_wp2_with fail
                    go_loopw [13] (fun vi wr => ∃ i nq : Nat, i ≤ n ∧ vi = .int .i64 i ∧ wr = w3.drewN nq) (fun vi _ => n - (intOf vi).toNat)
                    case atStart => exact ⟨0, 0, Nat.zero_le _, rfl, rfl⟩
                    case round =>
                      obtain ⟨i, nq0, hi, rfl, rfl⟩ := hrel
                      by_cases hlt : i < n
                      · have hca : w3.cell? ⟨w.heap.size + 1, i, none⟩ = some (.int .i64 (share B (t / cnt B n) (t % cnt B n) i)) := HR2'.out.cell hlt
                        have hcb : w3.cell? ⟨w2.heap.size, i, none⟩ = some (.int .i64 (share B ((t + 1) / cnt B n) ((t + 1) % cnt B n) i)) := HR3.out.cell hlt
                        have hs1 := share_bound B t (by omega) hlt hm1
                        have hs0 := share_nonneg B (t / cnt B n) (t % cnt B n) (Int.ediv_nonneg (by omega) (by omega)) i
                        by_cases hik : i = k
                        · have hm2 := more_here t HB.out hkn HBk.out
                          have hike : ((i : Int) == (k : Int)) = true := by simp [hik]
                          rw [← hik] at hm2
                          rw [hm2] at hcb
                          clear hm2 hik
                          generalize share B (t / cnt B n) (t % cnt B n) i = S at *
                          have hS : (S == 9223372036854775807) = false := by simp; omega
                          go_wp2
                          go_quiet (fail)
                          go_wp2
                          go_roundw
                          case rel => exact ⟨i + 1, _, by omega, by go_num, rfl⟩
                          case measure => simp [intOf]; omega
                        · have hm2 := more_else t HB.out hlt HBk.out hik
                          have hike : ((i : Int) == (k : Int)) = false := by simp; omega
                          rw [hm2] at hcb
                          clear hm2 hik
                          generalize share B (t / cnt B n) (t % cnt B n) i = S at *
                          go_wp2
                          go_quiet (fail)
                          go_wp2
                          go_roundw
                          case rel => exact ⟨i + 1, _, by omega, by go_num, rfl⟩
                          case measure => simp [intOf]; omega
                      · have hni : n = i := by omega
                        subst hni
                        go_wp2
                        go_ret
                        exact ⟨rfl, below_drewN HB3.out _⟩
                  · have hee : ((cnt B k : Int) == R) = false := by simpa using he
                    go_wp2
                    go_round
                    case rel => exact ⟨k + 1, by omega, by go_num, by rw [cnt_yes HB.out]; go_num, rfl, by rw [cnt_yes HB.out]; omega⟩
                    case measure => simp [intOf]; omega
              · have hkn : n = k := by omega
                subst hkn
                omega
  · by_cases hd : n ≤ 1048576
    · go_enter Tryf.func4, Tryf.ntmps4
      go_wp2_with (go_at_call 8; refine (bytes8 _ _ _ _ _ hnm).mono ?_; rintro e w' ⟨rfl, rfl⟩)
      go_ret
      exact ⟨rfl, Below.refl _ _⟩
    · go_enter Tryf.func4, Tryf.ntmps4
      go_wp2_with (go_at_call 8; refine (bytes8 _ _ _ _ _ hnm).mono ?_; rintro e w' ⟨rfl, rfl⟩)
      go_ret
      exact ⟨rfl, Below.refl _ _⟩
end Go.Proofs.Qxb6628823aFmt
