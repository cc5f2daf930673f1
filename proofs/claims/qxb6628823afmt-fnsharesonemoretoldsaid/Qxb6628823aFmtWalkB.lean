/- The walk of balance.Shares. -/
import Derived.Test.Qxb6628823aFmtWalkA
namespace Go.Proofs.Qxb6628823aFmt
open Go.RowKit

set_option maxHeartbeats 1000000 in
/-- balance.Shares -/
theorem shares_any (t : Int) (g n cap : Nat) (B : Nat → Bool) (w : World) (h0 : 0 ≤ t) (h1 : t ≤ 9223372036854775807) (hn : n ≤ 65536)
    (hg : g < w.heap.size) (hc : ∀ i, i < n → w.cell? ⟨g, i, none⟩ = some (.bool (B i))) (hm : 0 < cnt B n) :
    Calls Tryf.prog 7 #[.int .i64 t, .slice (some ⟨g, 0, none⟩) n cap] w fun e w' =>
      e = .returned (.slice (some ⟨w.heap.size, 0, none⟩) n n) ∧
      w'.rowIs w.heap.size 3 n (fun i => .int .i64 (share B (t / cnt B n) (t % cnt B n) i)) ∧ Below w.heap.size w w' := by
  have HC : Hid (∀ i, i < n → w.cell? ⟨g, i, none⟩ = some (.bool (B i))) := hc
  clear hc
  have hmk := run_make_row' (P := Tryf.prog) 25 3 (.int .i64 0) 8 Tryf.underlying25 Tryf.info3 rfl .i64 .i64 n (by omega) (by omega)
  have hcn := cnt_le B n
  obtain ⟨m, HM⟩ : ∃ m, Hid (m = cnt B n) := ⟨_, rfl⟩
  rw [← HM.out] at hm hcn
  have hr0 : 0 ≤ t % (m : Int) := Int.emod_nonneg _ (by omega)
  have hr1 : t % (m : Int) < m := Int.emod_lt_of_pos _ (by omega)
  have hq0 : 0 ≤ t / (m : Int) := Int.ediv_nonneg h0 (by omega)
  have hq1 : t / (m : Int) ≤ t := Int.ediv_le_self _ h0
  rw [← HM.out]
  go_enter Tryf.func7, Tryf.ntmps7
  go_wp2
  go_loop [5, 14] (fun v i => ∃ k : Nat, k ≤ n ∧ i = .int .i64 k ∧ v = .int .i64 (cnt B k)) (fun _ i => n - (intOf i).toNat)
  case atStart => exact ⟨0, Nat.zero_le _, rfl, rfl⟩
  case round =>
    obtain ⟨k, hk, rfl, rfl⟩ := hrel
    have hl := cnt_le B k
    by_cases hlt : k < n
    · have hcell := HC.out k hlt
      cases hb : B k
      · have HB : Hid (B k = false) := hb
        rw [hb] at hcell
        clear hb
        go_wp2
        go_round
        case rel => exact ⟨k + 1, by omega, by go_num, by rw [cnt_no HB.out]⟩
        case measure => simp [intOf]; omega
      · have HB : Hid (B k = true) := hb
        rw [hb] at hcell
        clear hb
        go_wp2
        go_round
        case rel => exact ⟨k + 1, by omega, by go_num, by rw [cnt_yes HB.out]; go_num⟩
        case measure => simp [intOf]; omega
    · have hkn : n = k := by omega
      subst hkn
      rw [← HM.out]
      have hm0 : ((m : Int) == 0) = false := by simp; omega
      have ht0 : decide (t < 0) = false := by simp; omega
      clear hlt hl hk
      have hqr : t / (m : Int) + t % (m : Int) ≤ t := by
        have e := Int.mul_ediv_add_emod t m
        have e2 := Int.mul_le_mul_of_nonneg_right (show (1 : Int) ≤ (m : Int) by omega) hq0
        rw [Int.one_mul] at e2
        omega
      generalize hQ : t / (m : Int) = Q at *
      generalize hR : t % (m : Int) = R at *
      have HQ : Hid (t / (m : Int) = Q) := hQ
      have HR : Hid (t % (m : Int) = R) := hR
      clear hQ hR
      go_wp2
      rw [HR.out]
      go_loopw [9, 43] (fun x i wr => ∃ k : Nat, k ≤ n ∧ i = .int .i64 k ∧ x = .int .i64 (left R (cnt B k)) ∧ Hid (wr.rowIs w.heap.size 3 n (rowK B Q R k)) ∧ Below w.heap.size w wr) (fun _ i _ => n - (intOf i).toNat)
      case atStart => exact ⟨0, Nat.zero_le _, rfl, by simp [left, cnt]; omega, (World.rowIs_made _ _ _ _).congr (fun j _ => rowK_zero B Q R j), (Below.refl _ _).alloc (Nat.le_refl _) _⟩
      case round =>
        obtain ⟨k, hk, rfl, rfl, hrow, hbel⟩ := hrel
        by_cases hlt : k < n
        · have hcell : wr.cell? ⟨g, k, none⟩ = some (.bool (B k)) := (hbel.cell (p := ⟨g, k, none⟩) hg).trans (HC.out k hlt)
          have hf1 : wr.frozen? ⟨w.heap.size, k, none⟩ = false := hrow.out.frozen _
          have hc1 : wr.cell? ⟨w.heap.size, k, none⟩ = some (rowK B Q R k k) := hrow.out.cell hlt
          cases hb : B k
          · have HB : Hid (B k = false) := hb
            rw [hb] at hcell
            clear hb
            go_wp2
            go_roundw
            case rel => exact ⟨k + 1, by omega, by go_num, by rw [cnt_no HB.out], hrow.out.congr (fun j _ => rowK_no Q R HB.out j), hbel⟩
            case measure => simp [intOf]; omega
          · have HB : Hid (B k = true) := hb
            rw [hb] at hcell
            clear hb
            by_cases hr : (cnt B k : Int) < R
            · have HL : Hid (left R (cnt B k) = R - cnt B k) := by show _ = _; simp [left, hr]
              have HL' : Hid (left R (cnt B (k + 1)) = R - cnt B k - 1) := by
                show _ = _
                rw [cnt_yes HB.out]; unfold left; split <;> omega
              rw [HL.out]
              have hqa : t / (m : Int) + 1 ≤ 9223372036854775807 := by rw [HQ.out]; omega
              have hqb : 0 ≤ t / (m : Int) := by rw [HQ.out]; exact hq0
              go_wp2
              go_roundw
              case rel => exact ⟨k + 1, by omega, by go_num, by rw [HL'.out], ((hrow.out.set k _).set k _).congr (fun j _ => by rw [HQ.out]; exact rowK_more Q R HB.out hr j), (hbel.setCell (Nat.le_refl _) _).setCell (Nat.le_refl _) _⟩
              case measure => simp [intOf]; omega
            · have HL : Hid (left R (cnt B k) = 0) := by show _ = _; simp [left, hr]
              have HL' : Hid (left R (cnt B (k + 1)) = 0) := by
                show _ = _
                rw [cnt_yes HB.out]; unfold left; rw [if_neg (by omega)]
              rw [HL.out]
              go_wp2
              go_roundw
              case rel => exact ⟨k + 1, by omega, by go_num, by rw [HL'.out], (hrow.out.set k _).congr (fun j _ => by rw [HQ.out]; exact rowK_yes Q R HB.out hr j), hbel.setCell (Nat.le_refl _) _⟩
              case measure => simp [intOf]; omega
        · have hkn : n = k := by omega
          subst hkn
          go_wp2
          go_ret
          refine ⟨rfl, hrow.out.congr (fun j hj => ?_), hbel⟩
          rw [HQ.out, HR.out]
          simp [rowK, hj]
end Go.Proofs.Qxb6628823aFmt
