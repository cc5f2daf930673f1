/- The walks of enter, leave, Peek, Space, isHex, digits. -/
import Derived.Test.Qxb6628866aWalkA
namespace Go.Proofs.Qxb6628866a
open Go.RowKit

theorem ret_bool {a b : Bool} (h : a = b) : Ending.returned (.bool a) = .returned (.bool b) := by rw [h]
theorem ret_int {k : IntKind} {a b : Int} (h : a = b) : Ending.returned (.int k a) = .returned (.int k b) := by rw [h]

set_option maxHeartbeats 400000 in
theorem enter_any {w : World} {X : Nat} {a : Option Addr} {t : List UInt8} {i d : Nat} (h : St w X a t i d) (hd : d ≤ 10000) :
    Calls Try.prog 26 #[.pointer (some ⟨X, 0, none⟩)] w fun e w' => e = .returned (.bool (decide (d + 1 ≤ 10000))) ∧ St w' X a t i (d + 1) ∧ w.grownBy w' (some X) := by
  have g2 := h.c2
  have f2 := h.fz 2
  have HS : Hid (St w X a t i d) := h
  clear h
  by_cases hb : d + 1 ≤ 10000
  · go_enter Try.func26, Try.ntmps26
    go_wp2
    go_ret
    exact ⟨by simp [hb]; omega, HS.out.sunk (d + 1) (by omega), G.set (G.refl _ _) _ _⟩
  · go_enter Try.func26, Try.ntmps26
    go_wp2
    go_ret
    exact ⟨by simp [hb]; omega, HS.out.sunk (d + 1) (by omega), G.set (G.refl _ _) _ _⟩

set_option maxHeartbeats 400000 in
/-- leave, deferred -/
theorem leave_d {w : World} {X : Nat} {a : Option Addr} {t : List UInt8} {i d : Nat} (u : FrameMode) (h : St w X a t i (d + 1)) :
    CallsD Try.prog 27 #[.pointer (some ⟨X, 0, none⟩)] u w fun e u' w' => u' = u ∧ (e = .returned (.tuple #[]) ∧ St w' X a t i d ∧ w.grownBy w' (some X)) := by
  have g2 := h.c2
  have f2 := h.fz 2
  have HS : Hid (St w X a t i (d + 1)) := h
  have hd := h.dep
  clear h
  go_enter_d Try.func27, Try.ntmps27
  go_wp2
  go_end0
  refine ⟨rfl, ?_, G.set (G.refl _ _) _ _⟩
  have h1 := HS.out.sunk d (by omega)
  simpa using h1

set_option maxHeartbeats 400000 in
theorem peek_some {w : World} {X : Nat} {a : Option Addr} {t : List UInt8} {i d : Nat} (h : St w X a t i d) (hi : i < t.length) :
    Calls Try.prog 14 #[.pointer (some ⟨X, 0, none⟩)] w fun e w' => e = .returned (.int .u8 (t[i].toNat : Int)) ∧ ∃ n, w' = w.drewN n := by
  obtain ⟨T, rfl, hT, _, hcell⟩ := h.txt.at hi
  have g0 := h.c0
  have g1 := h.c1
  have hl := h.len
  clear h
  generalize t[i] = x at *
  have hne : ((i : Int) == (t.length : Int)) = false := by simp; omega
  go_enter Try.func14, Try.ntmps14
  go_wp2
  go_quiet (fail)
  go_wp2
  go_quiet (fail)
  go_wp2
  go_ret
  exact ⟨rfl, _, by rw [World.drewN_drewN]⟩

set_option maxHeartbeats 400000 in
theorem peek_none {w : World} {X : Nat} {a : Option Addr} {t : List UInt8} {i d : Nat} (h : St w X a t i d) (hi : ¬ i < t.length) :
    Calls Try.prog 14 #[.pointer (some ⟨X, 0, none⟩)] w fun e w' => e = .returned (.int .u8 0) ∧ ∃ n, w' = w.drewN n := by
  have g0 := h.c0
  have g1 := h.c1
  have hl := h.len
  have hp := h.pos
  clear h
  have hne : ((i : Int) == (t.length : Int)) = true := by simp; omega
  go_enter Try.func14, Try.ntmps14
  go_wp2
  go_quiet (fail)
  go_wp2
  go_ret
  exact ⟨rfl, _, rfl⟩

set_option maxHeartbeats 400000 in
theorem ishex {w : World} (c : UInt8) :
    Calls Try.prog 30 #[.int .u8 (c.toNat : Int)] w fun e w' => e = .returned (.bool (hexd c)) ∧ w = w' := by
  have hc := c.toNat_lt
  have HC : Hid (hexd c = ((decide (48 ≤ c.toNat) && decide (c.toNat ≤ 57)) || (decide (97 ≤ c.toNat) && decide (c.toNat ≤ 102)) || (decide (65 ≤ c.toNat) && decide (c.toNat ≤ 70)))) := rfl
  generalize hexd c = b at *
  generalize c.toNat = x at *
  go_enter Try.func30, Try.ntmps30
  go_wp2
  all_goals
    go_ret
    refine ⟨ret_bool ?_, rfl⟩
    rw [HC.out, Bool.eq_iff_iff]
    simp
    try omega

/-- The place in a walk's block, for a measure. -/
def posOf (w : World) (X : Nat) : Nat := match w.cell? ⟨X, 1, none⟩ with
  | some (.int _ q) => q.toNat
  | _ => 0
theorem posOf_eq {w : World} {X : Nat} {a : Option Addr} {t : List UInt8} {i d : Nat} (h : St w X a t i d) : posOf w X = i := by
  unfold posOf
  rw [h.c1]
  simp

theorem meas {w w' : World} {X : Nat} {a : Option Addr} {t : List UInt8} {i i' d d' : Nat} (h : St w X a t i d) (h' : St w' X a t i' d') (hl : i < i') : t.length - posOf w' X < t.length - posOf w X := by
  rw [posOf_eq h, posOf_eq h']
  have := h'.pos
  omega

theorem ws_eq (c : UInt8) : ws c = ((((c.toNat : Int)) == 32) || (((c.toNat : Int)) == 9) || (((c.toNat : Int)) == 10) || (((c.toNat : Int)) == 13)) := by
  have h : ∀ k : Fin 256, (c == UInt8.ofNat k.val) = ((c.toNat : Int) == (k.val : Int)) := fun k => by
    rw [Bool.eq_iff_iff]
    simp only [beq_iff_eq, Int.natCast_inj]
    constructor
    · intro e
      rw [e, UInt8.toNat_ofNat']
      omega
    · intro e
      rw [← e]
      simp
  have h1 := h ⟨32, by omega⟩
  have h2 := h ⟨9, by omega⟩
  have h3 := h ⟨10, by omega⟩
  have h4 := h ⟨13, by omega⟩
  simp only [ws]
  rw [← show UInt8.ofNat 32 = 32 from rfl, ← show UInt8.ofNat 9 = 9 from rfl, ← show UInt8.ofNat 10 = 10 from rfl, ← show UInt8.ofNat 13 = 13 from rfl, h1, h2, h3, h4]
  rfl

set_option maxHeartbeats 1000000 in
theorem space_any {w : World} {X : Nat} {a : Option Addr} {t : List UInt8} {i d : Nat} (h : St w X a t i d) :
    Calls Try.prog 29 #[.pointer (some ⟨X, 0, none⟩)] w fun e w' => e = .returned (.tuple #[]) ∧ St w' X a t (skip t i) d ∧ w.grownBy w' (some X) := by
  have HS : Hid (St w X a t i d) := h
  have hl := h.len
  clear h
  go_enter Try.func29, Try.ntmps29
  go_wp2
  go_loopw [] (fun wr => ∃ j : Nat, Hid (St wr X a t j d) ∧ Hid (skip t j = skip t i) ∧ Hid (w.grownBy wr (some X)) ∧ j ≤ t.length) (fun wr => t.length - posOf wr X)
  case atStart => exact ⟨i, HS, rfl, G.refl _ _, HS.out.pos⟩
  case round =>
    obtain ⟨j, hst, hsk, hgr, hj⟩ := hrel
    have g0 := hst.out.c0
    have g1 := hst.out.c1
    have f1 := hst.out.fz 1
    by_cases hi : j < t.length
    · obtain ⟨T, ha, hT, _, hcell⟩ := hst.out.txt.at hi
      have HA : Hid (a = some ⟨T, 0, none⟩) := ha
      rw [ha] at g0
      clear ha
      cases hw : ws t[j]
      · have HW : Hid (skip t j = j) := skip_no hi hw
        rw [ws_eq] at hw
        generalize t[j] = x at *
        simp only [Bool.or_eq_false_iff] at hw
        obtain ⟨⟨⟨e1, e2⟩, e3⟩, e4⟩ := hw
        go_wp2
        go_quiet (fail)
        go_wp2
        go_quiet (fail)
        go_wp2
        first | go_end0 | refine bodyPost_ret (results_none rfl _ _ _) rfl ?_
        refine ⟨rfl, ?_, ?_⟩
        · rw [← hsk.out, HW.out]; exact hst.out.drewN _
        · exact G.drewN hgr.out _
      · have HW : Hid (skip t j = skip t (j + 1)) := skip_yes hi hw
        rw [ws_eq] at hw
        generalize t[j] = x at *
        have hcase : ((((x.toNat : Int)) == 32) = true) ∨ ((((x.toNat : Int)) == 32) = false ∧ (((x.toNat : Int)) == 9) = true) ∨ ((((x.toNat : Int)) == 32) = false ∧ (((x.toNat : Int)) == 9) = false ∧ (((x.toNat : Int)) == 10) = true) ∨ ((((x.toNat : Int)) == 32) = false ∧ (((x.toNat : Int)) == 9) = false ∧ (((x.toNat : Int)) == 10) = false ∧ (((x.toNat : Int)) == 13) = true) := by
          revert hw
          cases (((x.toNat : Int)) == 32) <;> cases (((x.toNat : Int)) == 9) <;> cases (((x.toNat : Int)) == 10) <;> cases (((x.toNat : Int)) == 13) <;> simp
        clear hw
        rcases hcase with e1 | ⟨e1, e2⟩ | ⟨e1, e2, e3⟩ | ⟨e1, e2, e3, e4⟩
        all_goals
          go_wp2
          go_quiet (fail)
          go_wp2
          go_quiet (fail)
          go_wp2
          go_roundw
          case rel => exact ⟨j + 1, (hst.out.drewN _).moved (j + 1) (by omega), by show _ = _; rw [← HW.out]; exact hsk.out, G.set (G.drewN hgr.out _) _ _, by omega⟩
          case measure => exact meas hst.out ((hst.out.drewN _).moved (j + 1) (by omega)) (by omega)
    · have hlt : decide ((j : Int) < (t.length : Int)) = false := by simp; omega
      go_wp2
      go_quiet (fail)
      go_wp2
      first | go_end0 | refine bodyPost_ret (results_none rfl _ _ _) rfl ?_
      refine ⟨rfl, ?_, G.drewN hgr.out _⟩
      rw [← hsk.out, skip_end hi]
      exact hst.out.drewN _
end Go.Proofs.Qxb6628866a
