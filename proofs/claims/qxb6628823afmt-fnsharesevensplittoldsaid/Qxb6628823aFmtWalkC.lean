/- The walk of FnSharesEvenSplit. -/
import Derived.Test.Qxb6628823aFmtWalkB
import Derived.Test.Qxb6628823aFmtCopyLaw
namespace Go.Proofs.Qxb6628823aFmt
open Go.RowKit

/-- What a slice of bools that came in is. -/
def IsBools (w : World) (a : Option Addr) (len cap : Nat) (B : Nat → Bool) : Prop :=
  (a = none ∧ len = 0 ∧ cap = 0) ∨
  ∃ x, a = some x ∧ len ≤ cap ∧ cap ≤ maxLen ∧ (∀ i, i < cap → w.cell? (x.add i) = some (.bool (B i)))

set_option maxHeartbeats 1000000 in
theorem even_any (t : Int) (a : Option Addr) (n cap : Nat) (B : Nat → Bool) (w : World) (ht : (Lit.int .i64 t).wf = true) (ha : IsBools w a n cap B) :
    Calls Tryf.prog 3 #[.int .i64 t, .slice a n cap] w fun e w' => e = .returned (.bool true) ∧ Below w.heap.size w w' := by
  have hcm : cap ≤ maxLen := by rcases ha with ⟨_, _, rfl⟩ | ⟨x, _, _, h, _⟩ <;> first | exact h | exact Nat.zero_le _
  have hnm : n ≤ 9223372036854775807 := by
    unfold maxLen at hcm
    rcases ha with ⟨_, rfl, rfl⟩ | ⟨x, _, h, _⟩ <;> omega
  have htb : -9223372036854775808 ≤ t ∧ t ≤ 9223372036854775807 := by
    simp [Lit.wf, IntKind.min, IntKind.max, IntKind.signed, IntKind.bits] at ht
    omega
  obtain ⟨ht1, ht2⟩ := htb
  by_cases hn : n ≤ 65536
  · by_cases hneg : t < 0
    · have hd : n ≤ 1048576 := by omega
      go_enter Tryf.func3, Tryf.ntmps3
      go_wp2_with (go_at_call 5; refine (bytes5 _ _ _ _ _ hnm).mono ?_; rintro e w' ⟨rfl, rfl⟩)
      go_ret
      exact ⟨rfl, Below.refl _ _⟩
    · have hd : n ≤ 1048576 := by omega
      rcases ha with ⟨rfl, rfl, rfl⟩ | ⟨x, rfl, hl, _, hcell⟩
      · go_enter Tryf.func3, Tryf.ntmps3
        go_wp2_with (first | (go_at_call 5; refine (bytes5 _ _ _ _ _ hnm).mono ?_; rintro e w' ⟨rfl, rfl⟩) | (go_at_call 6; refine (count_nil _).mono ?_; rintro e w' ⟨rfl, rfl⟩))
        go_ret
        exact ⟨rfl, Below.refl _ _⟩
      · have hmk := run_make_row' (P := Tryf.prog) 22 4 (.bool false) 1 Tryf.underlying22 Tryf.info4 rfl .i64 .i64 n (by omega) (by omega)
        have hcp := copy_fresh w x n cap B (fun i hi => hcell i (by omega))
        have HCB : Hid (∀ i, i < n → (w.alloc (.cells (bools B n) 4)).cell? ⟨w.heap.size, i, none⟩ = some (.bool (B i))) := fun i hi => bools_cell w B n i hi
        have hbel : Below w.heap.size w (w.alloc (.cells (bools B n) 4)) := (Below.refl _ _).alloc (Nat.le_refl _) _
        have hcl := cnt_le B n
        clear hcell
        by_cases hm : cnt B n = 0
        · have hm0 : ((cnt B n : Int) == 0) = true := by simp [hm]
          go_enter Tryf.func3, Tryf.ntmps3
          go_wp2_with (first | (go_at_call 5; refine (bytes5 _ _ _ _ _ hnm).mono ?_; rintro e w' ⟨rfl, rfl⟩) | (go_at_call 6; refine (count_any _ _ _ B _ hn HCB.out).mono ?_; rintro e w' ⟨rfl, rfl⟩))
          go_ret
          exact ⟨rfl, hbel⟩
        · have hm0 : ((cnt B n : Int) == 0) = false := by simp [hm]
          go_enter Tryf.func3, Tryf.ntmps3
          go_wp2_with (first | (go_at_call 5; refine (bytes5 _ _ _ _ _ hnm).mono ?_; rintro e w' ⟨rfl, rfl⟩) | (go_at_call 6; refine (count_any _ _ _ B _ hn HCB.out).mono ?_; rintro e w' ⟨rfl, rfl⟩))
          refine (shares_any t w.heap.size n n B _ (by omega) ht2 hn (by simp) HCB.out (by omega)).mono ?_
          rintro e w2 ⟨rfl, hrow0, hbel2⟩
          have hsz : (w.alloc (.cells (bools B n) 4)).heap.size = w.heap.size + 1 := by simp
          rw [hsz] at hrow0 hbel2
          rw [hsz]
          have hm1 : 0 < cnt B n := by omega
          have HA := sumS_all t (cnt B n) hm1
          have hr0 : 0 ≤ t % (cnt B n : Int) := Int.emod_nonneg _ (by omega)
          have hr1 : t % (cnt B n : Int) < cnt B n := Int.emod_lt_of_pos _ (by omega)
          have hq0 : 0 ≤ t / (cnt B n : Int) := Int.ediv_nonneg (by omega) (by omega)
          have hq1 : t / (cnt B n : Int) ≤ t := Int.ediv_le_self _ (by omega)
          generalize t / (cnt B n : Int) = Q at *
          generalize t % (cnt B n : Int) = R at *
          have HAll : Hid (sumS Q R (cnt B n) = t) := HA
          have HR : Hid (w2.rowIs (w.heap.size + 1) 3 n (fun i => .int .i64 (share B Q R i))) := hrow0
          have HCB2 : Hid (∀ i, i < n → w2.cell? ⟨w.heap.size, i, none⟩ = some (.bool (B i))) := fun i hi => (hbel2.cell (p := ⟨w.heap.size, i, none⟩) (by simp)).trans (HCB.out i hi)
          have HBL : Hid (Below w.heap.size w w2) := hbel.trans (hbel2.mono (by omega))
          clear hrow0 HA hbel2 hsz HCB hbel hcp hmk
          go_wp2_with fail
          go_loop [8, 9, 10, 11, 12, 13] (fun vs vf vl vh vp vi => ∃ k : Nat, k ≤ n ∧ vi = .int .i64 k ∧ vs = .int .i64 (sumS Q R (cnt B k)) ∧ vf = .bool (decide (cnt B k = 0)) ∧ vl = .int .i64 (loS Q R (cnt B k)) ∧ vh = .int .i64 (hiS Q R (cnt B k)) ∧ vp = .int .i64 (loS Q R (cnt B k))) (fun _ _ _ _ _ i => n - (intOf i).toNat)
          case atStart => exact ⟨0, Nat.zero_le _, rfl, by simp [cnt, sumS_zero Q R hr0], rfl, rfl, rfl, rfl⟩
          case round =>
            obtain ⟨k, hk, rfl, rfl, rfl, rfl, rfl, rfl⟩ := hrel
            by_cases hlt : k < n
            · have hcell := HCB2.out k hlt
              have hcs : w2.cell? ⟨w.heap.size + 1, k, none⟩ = some (.int .i64 (share B Q R k)) := HR.out.cell hlt
              cases hb : B k
              · have HB : Hid (B k = false) := hb
                have hz : share B Q R k = 0 := by simp [share, hb]
                rw [hb] at hcell
                rw [hz] at hcs
                clear hb hz
                go_wp2
                go_round
                case rel => exact ⟨k + 1, by omega, by go_num, by rw [cnt_no HB.out], by rw [cnt_no HB.out], by rw [cnt_no HB.out], by rw [cnt_no HB.out], by rw [cnt_no HB.out]⟩
                case measure => simp [intOf]; omega
              · have HB : Hid (B k = true) := hb
                rw [hb] at hcell
                have f1 := sumS_share Q R hb
                have f2 := loS_share Q R hb
                have f3 := share_nonneg B Q R hq0 k
                have f4 := sumS_nonneg Q R hq0 hr0 (cnt B k)
                have f5 := sumS_mono Q R hq0 (show cnt B k + 1 ≤ cnt B n from cnt_lt hlt hb)
                rw [HAll.out, f1] at f5
                clear hb
                by_cases hc0 : cnt B k = 0
                · have f6 := hiS_first Q R HB.out hc0
                  have HV1 : Hid (sumS Q R (cnt B k + 1) = sumS Q R (cnt B k) + share B Q R k ∧ loS Q R (cnt B k + 1) = share B Q R k ∧ hiS Q R (cnt B k + 1) = share B Q R k) := ⟨f1, f2, f6⟩
                  have HD : Hid (decide (cnt B k = 0) = true) := by show _ = _; simp [hc0]
                  rw [HD.out]
                  clear f1 f2 f6 hc0
                  generalize sumS Q R (cnt B k) = S at *
                  generalize share B Q R k = V at *
                  go_wp2
                  go_round
                  case rel => exact ⟨k + 1, by omega, by go_num, by rw [cnt_yes HB.out, HV1.out.1], by rw [cnt_yes HB.out]; simp, by rw [cnt_yes HB.out, HV1.out.2.1], by rw [cnt_yes HB.out, HV1.out.2.2], by rw [cnt_yes HB.out, HV1.out.2.1]⟩
                  case measure => simp [intOf]; omega
                · have f6 := hiS_next Q R hc0
                  obtain ⟨f7, f8⟩ := share_le Q R HB.out hc0
                  have HV1 : Hid (sumS Q R (cnt B k + 1) = sumS Q R (cnt B k) + share B Q R k ∧ loS Q R (cnt B k + 1) = share B Q R k ∧ hiS Q R (cnt B k + 1) = hiS Q R (cnt B k)) := ⟨f1, f2, f6⟩
                  have HD : Hid (decide (cnt B k = 0) = false) := by show _ = _; simp [hc0]
                  rw [HD.out]
                  clear f1 f2 f6 hc0
                  generalize sumS Q R (cnt B k) = S at *
                  generalize share B Q R k = V at *
                  generalize loS Q R (cnt B k) = L at *
                  generalize hiS Q R (cnt B k) = U at *
                  by_cases hvl : V < L
                  · go_wp2
                    go_round
                    case rel => exact ⟨k + 1, by omega, by go_num, by rw [cnt_yes HB.out, HV1.out.1], by rw [cnt_yes HB.out]; simp, by rw [cnt_yes HB.out, HV1.out.2.1], by rw [cnt_yes HB.out, HV1.out.2.2], by rw [cnt_yes HB.out, HV1.out.2.1]⟩
                    case measure => simp [intOf]; omega
                  · go_wp2
                    go_round
                    case rel => exact ⟨k + 1, by omega, by go_num, by rw [cnt_yes HB.out, HV1.out.1], by rw [cnt_yes HB.out]; simp, by rw [cnt_yes HB.out, HV1.out.2.1]; congr 1; omega, by rw [cnt_yes HB.out, HV1.out.2.2], by rw [cnt_yes HB.out, HV1.out.2.1]⟩
                    case measure => simp [intOf]; omega
            · have hkn : n = k := by omega
              subst hkn
              rw [HAll.out]
              obtain ⟨g1, g2, g3, g4, g5, g6⟩ := lohi Q R hq0 (cnt B n)
              generalize loS Q R (cnt B n) = L at *
              generalize hiS Q R (cnt B n) = U at *
              have hd1 : decide (U - L ≤ 1) = true := by simp; omega
              have hd2 : (t == t) = true := by simp
              go_wp2
              go_ret
              exact ⟨by simp, HBL.out⟩
  · by_cases hd : n ≤ 1048576
    · go_enter Tryf.func3, Tryf.ntmps3
      go_wp2_with (go_at_call 5; refine (bytes5 _ _ _ _ _ hnm).mono ?_; rintro e w' ⟨rfl, rfl⟩)
      go_ret
      exact ⟨rfl, Below.refl _ _⟩
    · go_enter Tryf.func3, Tryf.ntmps3
      go_wp2_with (go_at_call 5; refine (bytes5 _ _ _ _ _ hnm).mono ?_; rintro e w' ⟨rfl, rfl⟩)
      go_ret
      exact ⟨rfl, Below.refl _ _⟩
end Go.Proofs.Qxb6628823aFmt
