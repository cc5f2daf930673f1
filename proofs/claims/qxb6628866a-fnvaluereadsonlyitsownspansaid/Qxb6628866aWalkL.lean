/- The walks of the model's scanners: zzStringEnd, zzLiteral. -/
import Derived.Test.Qxb6628866aWalkK
import Derived.Test.Qxb6628866aPlainStr
namespace Go.Proofs.Qxb6628866a
open Go.RowKit

theorem Tm.cellAt {w : World} {T : Nat} {t : List UInt8} (h : Tm w (some ⟨T, 0, none⟩) t) {i : Nat} (hi : i < t.length) : w.cell? ⟨T, i, none⟩ = some (.int .u8 (t[i].toNat : Int)) := by
  obtain ⟨T', e, _, hc⟩ := h.at hi
  cases e
  exact hc

theorem SL_u_bad2 {t : List UInt8} {p m : Nat} (h : t[p]? = some 92) (hc : t[p + 1]? = some 117) (hm : m < 4) (hb : p + 2 + m < t.length) (hx : hexd (t[p + 2 + m]) = false) : SL t p = none := by
  by_cases h5 : p + 5 < t.length
  · exact SL_u_bad h hc h5 hm hx
  · exact SL_u_short h hc h5

set_option maxRecDepth 10000 in
set_option maxHeartbeats 1000000 in
theorem zz_str {w : World} {a : Option Addr} {t : List UInt8} {i : Nat} (h : Tm w a t) (hl : t.length ≤ 1048576) (hi : i < t.length) :
    Calls Try.prog 22 #[.slice a t.length t.length, .int .i64 (i : Int)] w fun e w' => e = .returned (.tuple #[.bool (SL t (i + 1)).isSome, .int .i64 (((SL t (i + 1)).getD (i + 1) : Nat) : Int)]) ∧ w = w' := by
  obtain ⟨T, rfl, _, _⟩ := h.at hi
  have HT : Hid (Tm w (some ⟨T, 0, none⟩) t) := h
  have HNo : Hid (SL t (i + 1) = none → Ending.returned (.tuple #[.bool false, .int .i64 ((i : Int) + 1)]) = .returned (.tuple #[.bool (SL t (i + 1)).isSome, .int .i64 (((SL t (i + 1)).getD (i + 1) : Nat) : Int)])) := fun e => by rw [e]; rfl
  clear h
  go_enter Try.func22, Try.ntmps22
  go_wp2
  go_loop [6] (fun vi => ∃ j : Nat, j ≤ t.length ∧ vi = .int .i64 j ∧ Hid (SL t j = SL t (i + 1))) (fun vi => t.length - (intOf vi).toNat)
  case atStart => exact ⟨i + 1, by omega, by go_num, rfl⟩
  case round =>
    obtain ⟨j, hj, rfl, hsl⟩ := hrel
    by_cases hlt : j < t.length
    · have hcell := HT.out.cellAt hlt
      have HC : Hid (t[j]? = some t[j]) := at_lt hlt
      generalize t[j] = c at *
      by_cases hc34 : c = 34
      · have e1 : (((c.toNat : Int)) == 34) = true := by rw [hc34]; rfl
        have hfin : SL t (i + 1) = some (j + 1) := by rw [← hsl.out]; exact SL_quote (by rw [HC.out, hc34])
        have HF : Hid (SL t (i + 1) = some (j + 1)) := hfin
        clear hfin hc34
        go_wp2
        go_ret2
        exact ⟨by rw [HF.out]; rfl, rfl⟩
      · have e1 : (((c.toNat : Int)) == 34) = false := ne_beq 34 hc34
        by_cases hctl : c.toNat < 32
        · have HF : Hid (SL t (i + 1) = none) := by show _ = _; rw [← hsl.out]; exact SL_ctl HC.out hc34 hctl
          clear hc34
          go_wp2
          go_ret2
          exact ⟨HNo.out HF.out, rfl⟩
        · by_cases hc92 : c = 92
          · have e2 : (((c.toNat : Int)) != 92) = false := by rw [hc92]; rfl
            have HC92 : Hid (t[j]? = some 92) := by show _ = _; rw [HC.out, hc92]
            clear hc92 hc34
            by_cases hlt1 : j + 1 < t.length
            · have hcell1 := HT.out.cellAt hlt1
              have HC1 : Hid (t[j + 1]? = some t[j + 1]) := at_lt hlt1
              generalize t[j + 1] = x at *
              cases hesc : esc x
              · obtain ⟨n0, n1, n2, n3, n4, n5, n6, n7⟩ := esc_not hesc
                by_cases hu : x = 117
                · have e4 : (((x.toNat : Int)) == 117) = true := by rw [hu]; rfl
                  have HU : Hid (t[j + 1]? = some 117) := by show _ = _; rw [HC1.out, hu]
                  clear hu hesc
                  go_wp2
                  go_loop [9] (fun vk => ∃ k : Nat, 2 ≤ k ∧ k ≤ 6 ∧ (2 < k → j + k ≤ t.length) ∧ vk = .int .i64 k ∧ Hid (∀ m (hm : m + 2 < k) (hb : j + 2 + m < t.length), hexd t[j + 2 + m] = true)) (fun vk => 6 - (intOf vk).toNat)
                  case atStart => exact ⟨2, by omega, by omega, by omega, rfl, fun m hm => by omega⟩
                  case round =>
                    obtain ⟨k, hk2, hk6, hkl, rfl, hhex⟩ := hrel
                    by_cases hk5 : k ≤ 5
                    · by_cases hb : j + k < t.length
                      · obtain ⟨k', rfl⟩ : ∃ k', k = k' + 2 := ⟨k - 2, by omega⟩
                        have hb' : j + 2 + k' < t.length := by omega
                        have hcellk := HT.out.cellAt hb
                        have HXB : Hid (hexd t[j + 2 + k'] = false → SL t j = none) := fun hx => SL_u_bad2 HC92.out HU.out (by omega) hb' hx
                        have HXS : Hid (hexd t[j + 2 + k'] = true → ∀ m (hm : m + 2 < k' + 2 + 1) (hb : j + 2 + m < t.length), hexd t[j + 2 + m] = true) := fun hx m hm hb => by
                          by_cases e : m = k'
                          · subst e; exact hx
                          · exact hhex.out m (by omega) hb
                        have hget : t[j + 2 + k'] = t[j + (k' + 2)] := by congr 1; omega
                        rw [hget] at HXB HXS
                        clear hget
                        generalize t[j + (k' + 2)] = y at *
                        cases hy : hexd y
                        · go_wp2_with (go_at_call 34; refine (zz_hex y).mono ?_; rintro e w' ⟨rfl, rfl⟩)
                          go_ret2
                          exact ⟨HNo.out (by rw [← hsl.out]; exact HXB.out hy), rfl⟩
                        · have HY : Hid (hexd y = true) := hy
                          go_wp2_with (go_at_call 34; refine (zz_hex y).mono ?_; rintro e w' ⟨rfl, rfl⟩)
                          go_round
                          case rel => exact ⟨k' + 2 + 1, by omega, by omega, by omega, by go_num, HXS.out HY.out⟩
                          case measure => simp [intOf]; omega
                      · have HF : Hid (SL t (i + 1) = none) := by show _ = _; rw [← hsl.out]; exact SL_u_short HC92.out HU.out (by omega)
                        go_wp2
                        go_ret2
                        exact ⟨HNo.out HF.out, rfl⟩
                    · have hk6' : k = 6 := by omega
                      subst hk6'
                      have h6 := hkl (by omega)
                      have HN : Hid (SL t (j + 6) = SL t (i + 1)) := by
                        show _ = _
                        rw [← hsl.out]
                        exact (SL_u_hex HC92.out HU.out (by omega) (fun m hm => hhex.out m (by omega) (by omega))).symm
                      go_wp2
                      go_round
                      case rel => exact ⟨j + 6, by omega, by go_num, HN⟩
                      case measure => simp [intOf]; omega
                · have e4 : (((x.toNat : Int)) == 117) = false := ne_beq 117 hu
                  have HF : Hid (SL t (i + 1) = none) := by show _ = _; rw [← hsl.out]; exact SL_bs_bad HC92.out HC1.out hu hesc
                  clear hu hesc
                  go_wp2
                  go_ret2
                  exact ⟨HNo.out HF.out, rfl⟩
              · have hu : x ≠ 117 := by rintro rfl; revert hesc; decide
                have HN : Hid (SL t (j + 2) = SL t (i + 1)) := by show _ = _; rw [← hsl.out]; exact (SL_bs_esc HC92.out HC1.out hu hesc).symm
                have hcs := esc_cases hesc
                have e9 := ne_beq 117 hu
                clear hesc hu
                rcases hcs with e0 | ⟨e0, e1⟩ | ⟨e0, e1, e2⟩ | ⟨e0, e1, e2, e3⟩ | ⟨e0, e1, e2, e3, e4⟩ | ⟨e0, e1, e2, e3, e4, e5⟩ | ⟨e0, e1, e2, e3, e4, e5, e6⟩ | ⟨e0, e1, e2, e3, e4, e5, e6, e7⟩
                all_goals
                  go_wp2
                  go_round
                  case rel => exact ⟨j + 2, by omega, by go_num, HN⟩
                  case measure => simp [intOf]; omega
            · have HF : Hid (SL t (i + 1) = none) := by show _ = _; rw [← hsl.out]; exact SL_bs_end HC92.out hlt1
              go_wp2
              go_ret2
              exact ⟨HNo.out HF.out, rfl⟩
          · have e2 : (((c.toNat : Int)) != 92) = true := by
              rw [bne_iff_ne]
              intro e
              exact hc92 (by rw [← UInt8.toNat_inj]; show c.toNat = 92; omega)
            have HN : Hid (SL t (j + 1) = SL t (i + 1)) := by show _ = _; rw [← hsl.out]; exact (SL_plain HC.out hc34 hctl hc92).symm
            clear hc92 hc34
            go_wp2
            go_round
            case rel => exact ⟨j + 1, by omega, by go_num, HN⟩
            case measure => simp [intOf]; omega
    · have HF : Hid (SL t (i + 1) = none) := by show _ = _; rw [← hsl.out]; exact SL_end hlt
      go_wp2
      go_ret2
      exact ⟨HNo.out HF.out, rfl⟩
end Go.Proofs.Qxb6628866a
