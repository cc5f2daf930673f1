/- The walks of digits and number. -/
import Derived.Test.Qxb6628866aWalkB
namespace Go.Proofs.Qxb6628866a
open Go.RowKit

/-- How many digits l opens with. -/
def dg : List UInt8 → Nat
  | [] => 0
  | c :: l => if isDig c = true then dg l + 1 else 0

theorem dg_yes {t : List UInt8} {p : Nat} (h : p < t.length) (hd : isDig t[p] = true) : p + dg (t.drop p) = p + 1 + dg (t.drop (p + 1)) := by
  rw [drop_cons h, dg, if_pos hd]; omega
theorem dg_no {t : List UInt8} {p : Nat} (h : p < t.length) (hd : isDig t[p] = false) : dg (t.drop p) = 0 := by
  rw [drop_cons h, dg, if_neg (by rw [hd]; simp)]
theorem dg_end {t : List UInt8} {p : Nat} (h : ¬ p < t.length) : dg (t.drop p) = 0 := by
  rw [List.drop_eq_nil_of_le (by omega), dg]
theorem dg_le (l : List UInt8) : dg l ≤ l.length := by
  induction l with
  | nil => simp [dg]
  | cons c l ih => simp only [dg, List.length_cons]; split <;> omega

set_option maxHeartbeats 1000000 in
theorem digits_any {w : World} {X : Nat} {a : Option Addr} {t : List UInt8} {i d : Nat} (h : St w X a t i d) :
    Calls Try.prog 32 #[.pointer (some ⟨X, 0, none⟩)] w fun e w' => e = .returned (.bool (decide (0 < dg (t.drop i)))) ∧ St w' X a t (i + dg (t.drop i)) d ∧ w.grownBy w' (some X) := by
  have HS : Hid (St w X a t i d) := h
  have hl := h.len
  have hpi := h.pos
  have g1 := h.c1
  clear h
  go_enter Try.func32, Try.ntmps32
  go_wp2
  clear g1
  go_loopw [] (fun wr => ∃ j : Nat, Hid (St wr X a t j d) ∧ Hid (j + dg (t.drop j) = i + dg (t.drop i)) ∧ Hid (w.grownBy wr (some X)) ∧ j ≤ t.length) (fun wr => t.length - posOf wr X)
  case atStart => exact ⟨i, HS, rfl, G.refl _ _, hpi⟩
  case round =>
    obtain ⟨j, hst, hsk, hgr, hj⟩ := hrel
    have g0 := hst.out.c0
    have g1 := hst.out.c1
    have f1 := hst.out.fz 1
    by_cases hi : j < t.length
    · have hlt : decide ((j : Int) < (t.length : Int)) = true := by simp; omega
      obtain ⟨T, ha, hT, _, hcell⟩ := hst.out.txt.at hi
      rw [ha] at g0
      have HA : Hid (a = some ⟨T, 0, none⟩) := ha
      clear ha
      cases hw : isDig t[j]
      · have HW : Hid (dg (t.drop j) = 0) := dg_no hi hw
        have hcase : decide ((48 : Int) ≤ (t[j].toNat : Int)) = false ∨ (decide ((48 : Int) ≤ (t[j].toNat : Int)) = true ∧ decide ((t[j].toNat : Int) ≤ 57) = false) := by
          unfold isDig at hw
          by_cases h1 : 48 ≤ t[j].toNat
          · right
            simp [h1] at hw
            exact ⟨by simp; omega, by simp; omega⟩
          · left; simp; omega
        clear hw
        generalize t[j] = x at *
        rcases hcase with e1 | ⟨e1, e2⟩
        all_goals
          go_wp2
          go_quiet (fail)
          go_wp2
          go_ret
          refine ⟨ret_bool ?_, ?_, ?_⟩
          · have h1 := hsk.out
            rw [HW.out] at h1
            rw [decide_eq_decide]
            omega
          · rw [← hsk.out, HW.out]; exact hst.out.drewN _
          · exact G.drewN hgr.out _
      · have HW : Hid (j + dg (t.drop j) = j + 1 + dg (t.drop (j + 1))) := dg_yes hi hw
        have e12 : decide ((48 : Int) ≤ (t[j].toNat : Int)) = true ∧ decide ((t[j].toNat : Int) ≤ 57) = true := by
          unfold isDig at hw
          simp at hw
          exact ⟨by simp; omega, by simp; omega⟩
        clear hw
        obtain ⟨e1, e2⟩ := e12
        generalize t[j] = x at *
        go_wp2
        go_quiet (fail)
        go_wp2
        go_roundw
        case rel => exact ⟨j + 1, (hst.out.drewN _).moved (j + 1) (by omega), by show _ = _; rw [← HW.out]; exact hsk.out, G.set (G.drewN hgr.out _) _ _, by omega⟩
        case measure => exact meas hst.out ((hst.out.drewN _).moved (j + 1) (by omega)) (by omega)
    · have hlt : decide ((j : Int) < (t.length : Int)) = false := by simp; omega
      have HW : Hid (dg (t.drop j) = 0) := dg_end hi
      go_wp2
      go_quiet (fail)
      go_wp2
      go_ret
      refine ⟨ret_bool ?_, ?_, ?_⟩
      · have h1 := hsk.out
        rw [HW.out] at h1
        rw [decide_eq_decide]
        omega
      · rw [← hsk.out, HW.out]; exact hst.out.drewN _
      · exact G.drewN hgr.out _
end Go.Proofs.Qxb6628866a
