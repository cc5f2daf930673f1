/- The walks of the model's scanners: zzSkipWS, zzNumber. -/
import Derived.Test.Qxb6628866aWalkD
import Derived.Test.Qxb6628866aWalkJ
namespace Go.Proofs.Qxb6628866a
open Go.RowKit

/-- The bytes t lie where the slice value leads. -/
def Tm (w : World) (a : Option Addr) (t : List UInt8) : Prop :=
  t = [] ∨ ∃ T, a = some ⟨T, 0, none⟩ ∧ T < w.heap.size ∧ ∀ j (h : j < t.length), w.cell? ⟨T, j, none⟩ = some (.int .u8 (t[j].toNat : Int))
theorem Tm.at {w : World} {a : Option Addr} {t : List UInt8} (h : Tm w a t) {i : Nat} (hi : i < t.length) :
    ∃ T, a = some ⟨T, 0, none⟩ ∧ T < w.heap.size ∧ w.cell? ⟨T, i, none⟩ = some (.int .u8 (t[i].toNat : Int)) := by
  rcases h with rfl | ⟨T, e, h2, h3⟩
  · simp at hi
  · exact ⟨T, e, h2, h3 i hi⟩
theorem Tm.kept {w w' : World} {a : Option Addr} {t : List UInt8} (h : Tm w a t) (g : Below w.heap.size w w') : Tm w' a t := by
  rcases h with rfl | ⟨T, e, h2, h3⟩
  · exact .inl rfl
  · refine .inr ⟨T, e, Nat.lt_of_lt_of_le h2 g.size, fun j hj => ?_⟩
    rw [World.cell?_of_block (w := w) (g.block T h2)]
    exact h3 j hj

set_option maxHeartbeats 400000 in
theorem zz_skip {w : World} {a : Option Addr} {t : List UInt8} {i : Nat} (h : Tm w a t) (hl : t.length ≤ 1048576) (hi0 : i ≤ t.length) :
    Calls Try.prog 20 #[.slice a t.length t.length, .int .i64 (i : Int)] w fun e w' => e = .returned (.int .i64 (skip t i : Int)) ∧ w = w' := by
  have HT : Hid (Tm w a t) := h
  clear h
  go_enter Try.func20, Try.ntmps20
  go_wp2
  go_loop [1] (fun vi => ∃ j : Nat, j ≤ t.length ∧ vi = .int .i64 j ∧ Hid (skip t j = skip t i)) (fun vi => t.length - (intOf vi).toNat)
  case atStart => exact ⟨i, hi0, rfl, rfl⟩
  case round =>
    obtain ⟨j, hj, rfl, hsk⟩ := hrel
    by_cases hi : j < t.length
    · obtain ⟨T, rfl, _, hcell⟩ := HT.out.at hi
      cases hw : ws t[j]
      · have HW : Hid (skip t j = j) := skip_no hi hw
        have HC := zz_ws (w := w) t[j]
        rw [hw] at HC
        generalize t[j] = x at *
        go_wp2_with (first | (go_at_call 33; refine HC.mono ?_; rintro e w' ⟨rfl, rfl⟩))
        go_ret
        exact ⟨ret_int (by rw [← hsk.out, HW.out]), rfl⟩
      · have HW : Hid (skip t j = skip t (j + 1)) := skip_yes hi hw
        have HC := zz_ws (w := w) t[j]
        rw [hw] at HC
        generalize t[j] = x at *
        go_wp2_with (first | (go_at_call 33; refine HC.mono ?_; rintro e w' ⟨rfl, rfl⟩))
        go_round
        case rel => exact ⟨j + 1, by omega, by go_num, by show _ = _; rw [← HW.out]; exact hsk.out⟩
        case measure => simp [intOf]; omega
    · have hlt : decide ((j : Int) < (t.length : Int)) = false := by simp; omega
      have HW : Hid (skip t j = j) := skip_end hi
      go_wp2
      go_ret
      exact ⟨ret_int (by rw [← hsk.out, HW.out]), rfl⟩

theorem ns_le {st : Nat} {c : UInt8} {s : Nat} (h : numStep st c = some s) : s ≤ 8 := by
  unfold numStep at h
  repeat' split at h
  all_goals first | (cases h; omega) | (cases h)

set_option maxHeartbeats 400000 in
theorem zz_number {w : World} {a : Option Addr} {t : List UInt8} {i : Nat} (h : Tm w a t) (hl : t.length ≤ 1048576) (hi0 : i ≤ t.length) :
    Calls Try.prog 24 #[.slice a t.length t.length, .int .i64 (i : Int)] w fun e w' => e = .returned (.tuple #[.bool (numAcc (NR t i 0).2), .int .i64 ((NR t i 0).1 : Int)]) ∧ w = w' := by
  have HT : Hid (Tm w a t) := h
  clear h
  go_enter Try.func24, Try.ntmps24
  go_wp2
  go_loop [1, 6] (fun vi vs => ∃ j s : Nat, j ≤ t.length ∧ s ≤ 8 ∧ vi = .int .i64 j ∧ vs = .int .i64 s ∧ Hid (NR t j s = NR t i 0)) (fun vi _ => t.length - (intOf vi).toNat)
  case atStart => exact ⟨i, 0, hi0, by omega, rfl, rfl, rfl⟩
  case round =>
    obtain ⟨j, s, hj, hs, rfl, rfl, hnr⟩ := hrel
    by_cases hi : j < t.length
    · obtain ⟨T, rfl, _, hcell⟩ := HT.out.at hi
      have HQ : Hid (t[j]? = some t[j]) := at_lt hi
      have HC := zz_step (w := w) s t[j] hs
      cases hn : numStep s t[j] with
      | none =>
        rw [hn, show nsInt none = -1 from rfl] at HC
        have HE : Hid (NR t i 0 = (j, s)) := by show _ = _; rw [← hnr.out]; exact NR_stop fun c hc => by rw [HQ.out] at hc; cases hc; exact hn
        clear hn HQ
        generalize t[j] = x at *
        have HA := zz_acc (w := w) s
        go_wp2_with (first | (go_at_call 35; refine HC.mono ?_; rintro e w' ⟨rfl, rfl⟩) | (go_at_call 36; refine HA.mono ?_; rintro e w' ⟨rfl, rfl⟩))
        go_ret2
        exact ⟨by rw [HE.out]; rfl, rfl⟩
      | some s' =>
        rw [hn, show nsInt (some s') = (s' : Int) from rfl] at HC
        have hs' := ns_le hn
        have HE : Hid (NR t (j + 1) s' = NR t i 0) := by show _ = _; rw [← hnr.out]; exact (NR_go HQ.out hn).symm
        clear hn HQ
        generalize t[j] = x at *
        go_wp2_with (first | (go_at_call 35; refine HC.mono ?_; rintro e w' ⟨rfl, rfl⟩))
        go_round
        case rel => exact ⟨j + 1, s', by omega, hs', by go_num, rfl, HE⟩
        case measure => simp [intOf]; omega
    · have hlt : decide ((j : Int) < (t.length : Int)) = false := by simp; omega
      have HE : Hid (NR t i 0 = (j, s)) := by show _ = _; rw [← hnr.out]; exact NR_stop fun c hc => by rw [at_ge hi] at hc; cases hc
      have HA := zz_acc (w := w) s
      go_wp2_with (first | (go_at_call 36; refine HA.mono ?_; rintro e w' ⟨rfl, rfl⟩))
      go_ret2
      exact ⟨by rw [HE.out]; rfl, rfl⟩
end Go.Proofs.Qxb6628866a
