/- The walk of string. -/
import Derived.Test.Qxb6628866aWalkB
import Derived.Test.Qxb6628866aPlainStr
namespace Go.Proofs.Qxb6628866a
open Go.RowKit

theorem Tx.cellAt {w : World} {X T : Nat} {t : List UInt8} (h : Tx w X (some ⟨T, 0, none⟩) t) {i : Nat} (hi : i < t.length) : w.cell? ⟨T, i, none⟩ = some (.int .u8 (t[i].toNat : Int)) := by
  obtain ⟨T', e, _, _, hc⟩ := h.at hi
  have e9 : T' = T := by simpa using e.symm
  rw [← e9]
  exact hc
theorem ne_beq {c : UInt8} (k : Nat) (h : c ≠ UInt8.ofNat k) : (((c.toNat : Int)) == (k : Int)) = false := by
  simp only [beq_eq_false_iff_ne, ne_eq, Int.natCast_inj]
  intro e
  exact h (by rw [← e]; simp)
theorem beq_eq {c : UInt8} (k : Nat) (hk : k < 256) : (((c.toNat : Int)) == (k : Int)) = (c == UInt8.ofNat k) := by
  rw [Bool.eq_iff_iff]
  simp only [beq_iff_eq, Int.natCast_inj]
  constructor
  · intro e
    rw [← e]
    simp
  · intro e
    rw [e, UInt8.toNat_ofNat']
    omega
theorem esc_cases {x : UInt8} (h : esc x = true) : ((((x.toNat : Int)) == 34) = true) ∨ ((((x.toNat : Int)) == 34) = false ∧ (((x.toNat : Int)) == 92) = true) ∨ ((((x.toNat : Int)) == 34) = false ∧ (((x.toNat : Int)) == 92) = false ∧ (((x.toNat : Int)) == 47) = true) ∨ ((((x.toNat : Int)) == 34) = false ∧ (((x.toNat : Int)) == 92) = false ∧ (((x.toNat : Int)) == 47) = false ∧ (((x.toNat : Int)) == 98) = true) ∨ ((((x.toNat : Int)) == 34) = false ∧ (((x.toNat : Int)) == 92) = false ∧ (((x.toNat : Int)) == 47) = false ∧ (((x.toNat : Int)) == 98) = false ∧ (((x.toNat : Int)) == 102) = true) ∨ ((((x.toNat : Int)) == 34) = false ∧ (((x.toNat : Int)) == 92) = false ∧ (((x.toNat : Int)) == 47) = false ∧ (((x.toNat : Int)) == 98) = false ∧ (((x.toNat : Int)) == 102) = false ∧ (((x.toNat : Int)) == 110) = true) ∨ ((((x.toNat : Int)) == 34) = false ∧ (((x.toNat : Int)) == 92) = false ∧ (((x.toNat : Int)) == 47) = false ∧ (((x.toNat : Int)) == 98) = false ∧ (((x.toNat : Int)) == 102) = false ∧ (((x.toNat : Int)) == 110) = false ∧ (((x.toNat : Int)) == 114) = true) ∨ ((((x.toNat : Int)) == 34) = false ∧ (((x.toNat : Int)) == 92) = false ∧ (((x.toNat : Int)) == 47) = false ∧ (((x.toNat : Int)) == 98) = false ∧ (((x.toNat : Int)) == 102) = false ∧ (((x.toNat : Int)) == 110) = false ∧ (((x.toNat : Int)) == 114) = false ∧ (((x.toNat : Int)) == 116) = true) := by
  have b0 := beq_eq (c := x) 34 (by omega)
  have b1 := beq_eq (c := x) 92 (by omega)
  have b2 := beq_eq (c := x) 47 (by omega)
  have b3 := beq_eq (c := x) 98 (by omega)
  have b4 := beq_eq (c := x) 102 (by omega)
  have b5 := beq_eq (c := x) 110 (by omega)
  have b6 := beq_eq (c := x) 114 (by omega)
  have b7 := beq_eq (c := x) 116 (by omega)
  simp only [esc] at h
  rw [← show UInt8.ofNat 34 = 34 from rfl, ← show UInt8.ofNat 92 = 92 from rfl, ← show UInt8.ofNat 47 = 47 from rfl, ← show UInt8.ofNat 98 = 98 from rfl, ← show UInt8.ofNat 102 = 102 from rfl, ← show UInt8.ofNat 110 = 110 from rfl, ← show UInt8.ofNat 114 = 114 from rfl, ← show UInt8.ofNat 116 = 116 from rfl, ← b0, ← b1, ← b2, ← b3, ← b4, ← b5, ← b6, ← b7] at h
  clear b0 b1 b2 b3 b4 b5 b6 b7
  simp only [Int.cast_ofNat_Int] at h
  revert h
  cases (((x.toNat : Int)) == 34) <;> cases (((x.toNat : Int)) == 92) <;> cases (((x.toNat : Int)) == 47) <;> cases (((x.toNat : Int)) == 98) <;> cases (((x.toNat : Int)) == 102) <;> cases (((x.toNat : Int)) == 110) <;> cases (((x.toNat : Int)) == 114) <;> cases (((x.toNat : Int)) == 116) <;> simp
theorem esc_not {x : UInt8} (h : esc x = false) : (((x.toNat : Int)) == 34) = false ∧ (((x.toNat : Int)) == 92) = false ∧ (((x.toNat : Int)) == 47) = false ∧ (((x.toNat : Int)) == 98) = false ∧ (((x.toNat : Int)) == 102) = false ∧ (((x.toNat : Int)) == 110) = false ∧ (((x.toNat : Int)) == 114) = false ∧ (((x.toNat : Int)) == 116) = false := by
  simp only [esc, Bool.or_eq_false_iff, beq_eq_false_iff_ne] at h
  obtain ⟨⟨⟨⟨⟨⟨⟨h0, h1⟩, h2⟩, h3⟩, h4⟩, h5⟩, h6⟩, h7⟩ := h
  exact ⟨ne_beq 34 h0, ne_beq 92 h1, ne_beq 47 h2, ne_beq 98 h3, ne_beq 102 h4, ne_beq 110 h5, ne_beq 114 h6, ne_beq 116 h7⟩

set_option maxHeartbeats 400000 in
theorem string_no {w : World} {X : Nat} {a : Option Addr} {t : List UInt8} {i d : Nat} (h : St w X a t i d) (hq : t[i]? ≠ some 34) :
    Calls Try.prog 17 #[.pointer (some ⟨X, 0, none⟩)] w fun e w' => e = .returned (.bool false) ∧ St w' X a t i d ∧ w.grownBy w' (some X) := by
  have hn := next_no 34 34 rfl h hq
  clear h
  go_enter Try.func17, Try.ntmps17
  go_wp2_with fail
  refine hn.mono ?_
  rintro e w1 ⟨rfl, h1, h2⟩
  clear hn
  go_wp2
  go_ret
  exact ⟨rfl, h1, h2⟩

set_option maxHeartbeats 4000000 in
theorem string_yes {w : World} {X : Nat} {a : Option Addr} {t : List UInt8} {i d : Nat} (h : St w X a t i d) (hq : t[i]? = some 34) :
    Calls Try.prog 17 #[.pointer (some ⟨X, 0, none⟩)] w fun e w' => e = .returned (.bool (SL t (i + 1)).isSome) ∧ St w' X a t ((SL t (i + 1)).getD (i + 1)) d ∧ w.grownBy w' (some X) := by
  have hn := next_yes 34 34 rfl h hq
  have hl := h.len
  obtain ⟨hi, _⟩ := List.getElem?_eq_some_iff.1 hq
  obtain ⟨T, ha, hT, _, _⟩ := h.txt.at hi
  subst ha
  clear h hq
  go_enter Try.func17, Try.ntmps17
  go_wp2_with fail
  refine hn.mono ?_
  rintro e w1 ⟨rfl, h1, hg1⟩
  clear hn
  have g0 := h1.c0
  have g1 := h1.c1
  have HS1 : Hid (St w1 X (some ⟨T, 0, none⟩) t (i + 1) d) := h1
  have HG1 : Hid (w.grownBy w1 (some X)) := hg1
  clear h1 hg1
  go_wp2
  go_quiet (fail)
  have HS2 : Hid (St (w1.drewN nq) X (some ⟨T, 0, none⟩) t (i + 1) d) := HS1.out.drewN nq
  have HG2 : Hid (w.grownBy (w1.drewN nq) (some X)) := G.drewN HG1.out nq
  clear HS1 HG1 g0 g1
  generalize w1.drewN nq = w2 at *
  go_wp2
  go_loop [4] (fun vi => ∃ j : Nat, j ≤ t.length ∧ vi = .int .i64 j ∧ Hid (SL t j = SL t (i + 1))) (fun vi => t.length - (intOf vi).toNat)
  case atStart => exact ⟨i + 1, by omega, by go_num, rfl⟩
  case round =>
    obtain ⟨j, hj, rfl, hsl⟩ := hrel
    by_cases hlt : j < t.length
    · have hcell := HS2.out.txt.cellAt hlt
      have HC : Hid (t[j]? = some t[j]) := at_lt hlt
      generalize t[j] = c at *
      by_cases hc34 : c = 34
      · have e1 : (((c.toNat : Int)) == 34) = true := by rw [hc34]; rfl
        have hfin : SL t (i + 1) = some (j + 1) := by rw [← hsl.out]; exact SL_quote (by rw [HC.out, hc34])
        have HF : Hid (SL t (i + 1) = some (j + 1)) := hfin
        have g0 := HS2.out.c0
        have g1 := HS2.out.c1
        have f1 := HS2.out.fz 1
        clear hfin hc34
        go_wp2
        go_ret
        refine ⟨ret_bool (by rw [HF.out]; rfl), ?_, G.set HG2.out _ _⟩
        rw [HF.out]
        exact HS2.out.moved (j + 1) (by omega)
      · have e1 : (((c.toNat : Int)) == 34) = false := ne_beq 34 hc34
        by_cases hctl : c.toNat < 32
        · have HF : Hid (SL t (i + 1) = none) := by show _ = _; rw [← hsl.out]; exact SL_ctl HC.out hc34 hctl
          clear hc34
          go_wp2
          go_ret
          exact ⟨ret_bool (by rw [HF.out]; rfl), by rw [HF.out]; exact HS2.out, HG2.out⟩
        · by_cases hc92 : c = 92
          · have e2 : (((c.toNat : Int)) != 92) = false := by rw [hc92]; rfl
            have HC92 : Hid (t[j]? = some 92) := by show _ = _; rw [HC.out, hc92]
            clear hc92 hc34
            by_cases hlt1 : j + 1 < t.length
            · have e3 : (((j : Int) + 1) == (t.length : Int)) = false := by simp; omega
              have hcell1 := HS2.out.txt.cellAt hlt1
              have HC1 : Hid (t[j + 1]? = some t[j + 1]) := at_lt hlt1
              generalize t[j + 1] = x at *
              cases hesc : esc x
              · obtain ⟨n0, n1, n2, n3, n4, n5, n6, n7⟩ := esc_not hesc
                by_cases hu : x = 117
                · have e4 : (((x.toNat : Int)) == 117) = true := by rw [hu]; rfl
                  have HU : Hid (t[j + 1]? = some 117) := by show _ = _; rw [HC1.out, hu]
                  clear hu hesc
                  by_cases h5 : j + 5 < t.length
                  · go_wp2
                    go_loop [73] (fun vk => ∃ k : Nat, k ≤ 4 ∧ vk = .int .i64 k ∧ Hid (∀ m (hm : m < k) (hb : j + 2 + m < t.length), hexd t[j + 2 + m] = true)) (fun vk => 4 - (intOf vk).toNat)
                    case atStart => exact ⟨0, by omega, rfl, fun m hm => by omega⟩
                    case round =>
                      obtain ⟨k, hk, rfl, hhex⟩ := hrel
                      by_cases hk4 : k < 4
                      · have hb : j + 2 + k < t.length := by omega
                        have hcellk := HS2.out.txt.cellAt hb
                        have HXB : Hid (hexd t[j + 2 + k] = false → SL t j = none) := fun hx => SL_u_bad HC92.out HU.out h5 hk4 hx
                        have HXS : Hid (hexd t[j + 2 + k] = true → ∀ m (hm : m < k + 1) (hb : j + 2 + m < t.length), hexd t[j + 2 + m] = true) := fun hx m hm hb => by
                          by_cases e : m = k
                          · subst e; exact hx
                          · exact hhex.out m (by omega) hb
                        have hca : j + 1 + 1 + k = j + 2 + k := by omega
                        generalize t[j + 2 + k] = y at *
                        cases hy : hexd y
                        · go_wp2_with (go_at_call 30; refine (ishex y).mono ?_; rintro e w' ⟨rfl, rfl⟩)
                          go_ret
                          have hfin : SL t (i + 1) = none := by rw [← hsl.out]; exact HXB.out hy
                          exact ⟨ret_bool (by rw [hfin]; rfl), by rw [hfin]; exact HS2.out, HG2.out⟩
                        · have HY : Hid (hexd y = true) := hy
                          go_wp2_with (go_at_call 30; refine (ishex y).mono ?_; rintro e w' ⟨rfl, rfl⟩)
                          go_round
                          case rel => exact ⟨k + 1, by omega, by go_num, HXS.out HY.out⟩
                          case measure => simp [intOf]; omega
                      · have hk4' : k = 4 := by omega
                        subst hk4'
                        have HN : Hid (SL t (j + 6) = SL t (i + 1)) := by
                          show _ = _
                          rw [← hsl.out]
                          exact (SL_u_hex HC92.out HU.out h5 (fun m hm => hhex.out m hm (by omega))).symm
                        go_wp2
                        go_round
                        case rel => exact ⟨j + 6, by omega, by go_num, HN⟩
                        case measure => simp [intOf]; omega
                  · have HF : Hid (SL t (i + 1) = none) := by show _ = _; rw [← hsl.out]; exact SL_u_short HC92.out HU.out h5
                    go_wp2
                    go_ret
                    exact ⟨ret_bool (by rw [HF.out]; rfl), by rw [HF.out]; exact HS2.out, HG2.out⟩
                · have e4 : (((x.toNat : Int)) == 117) = false := ne_beq 117 hu
                  have HF : Hid (SL t (i + 1) = none) := by show _ = _; rw [← hsl.out]; exact SL_bs_bad HC92.out HC1.out hu hesc
                  clear hu hesc
                  go_wp2
                  go_ret
                  exact ⟨ret_bool (by rw [HF.out]; rfl), by rw [HF.out]; exact HS2.out, HG2.out⟩
              · have hu : x ≠ 117 := by rintro rfl; revert hesc; decide
                have HN : Hid (SL t (j + 2) = SL t (i + 1)) := by show _ = _; rw [← hsl.out]; exact (SL_bs_esc HC92.out HC1.out hu hesc).symm
                have hcs := esc_cases hesc
                clear hesc hu
                rcases hcs with e0 | ⟨e0, e1⟩ | ⟨e0, e1, e2⟩ | ⟨e0, e1, e2, e3⟩ | ⟨e0, e1, e2, e3, e4⟩ | ⟨e0, e1, e2, e3, e4, e5⟩ | ⟨e0, e1, e2, e3, e4, e5, e6⟩ | ⟨e0, e1, e2, e3, e4, e5, e6, e7⟩
                all_goals
                  go_wp2
                  go_round
                  case rel => exact ⟨j + 2, by omega, by go_num, HN⟩
                  case measure => simp [intOf]; omega
            · have e3 : (((j : Int) + 1) == (t.length : Int)) = true := by simp; omega
              have HF : Hid (SL t (i + 1) = none) := by show _ = _; rw [← hsl.out]; exact SL_bs_end HC92.out hlt1
              go_wp2
              go_ret
              exact ⟨ret_bool (by rw [HF.out]; rfl), by rw [HF.out]; exact HS2.out, HG2.out⟩
          · have e2 : (((c.toNat : Int)) != 92) = true := by
              rw [bne_iff_ne]
              intro e
              exact hc92 (by rw [← UInt8.toNat_inj]; show c.toNat = 92; omega)
            have HN : Hid (SL t (j + 1) = SL t (i + 1)) := by show _ = _; rw [← hsl.out]; exact (SL_plain HC.out hc34 hctl hc92).symm
            clear hc92 hc34
            go_wp2
            go_round
            case rel => exact ⟨j + 1, by omega, by go_num, HN⟩
            case measure => simp [intOf]; omega
    · have HF : Hid (SL t (i + 1) = none) := by show _ = _; rw [← hsl.out]; exact SL_end hlt
      go_wp2
      go_ret
      exact ⟨ret_bool (by rw [HF.out]; rfl), by rw [HF.out]; exact HS2.out, HG2.out⟩
end Go.Proofs.Qxb6628866a
