/- The walk of number. Its tails are laid by program. -/
import Derived.Test.Qxb6628866aPlainNum
import Derived.Deep.RegionWith
namespace Go.Proofs.Qxb6628866a
open Go.RowKit

/-- next('-'), whatever stands there. -/
theorem next_minus {w : World} {X : Nat} {a : Option Addr} {t : List UInt8} {i d : Nat} (h : St w X a t i d) :
    Calls Try.prog 25 #[.pointer (some ⟨X, 0, none⟩), .int .u8 45] w fun e w' => ∃ b j s, e = .returned (.bool b) ∧ St w' X a t j d ∧ w.grownBy w' (some X) ∧ NR t i 0 = NR t j s ∧ ((s = 0 ∧ t[j]? ≠ some 45) ∨ s = 1) := by
  by_cases hm : t[i]? = some 45
  · refine (next_yes 45 45 rfl h hm).mono ?_
    rintro e w' ⟨rfl, h1, h2⟩
    exact ⟨true, i + 1, 1, rfl, h1, h2, n_minus hm, .inr rfl⟩
  · refine (next_no 45 45 rfl h hm).mono ?_
    rintro e w' ⟨rfl, h1, h2⟩
    exact ⟨false, i, 0, rfl, h1, h2, rfl, .inl ⟨rfl, hm⟩⟩

set_option maxHeartbeats 4000000 in
theorem number_any {w : World} {X : Nat} {a : Option Addr} {t : List UInt8} {i d : Nat} (h : St w X a t i d) :
    Calls Try.prog 19 #[.pointer (some ⟨X, 0, none⟩)] w fun e w' => e = .returned (.bool (numAcc (NR t i 0).2)) ∧ St w' X a t (NR t i 0).1 d ∧ w.grownBy w' (some X) := by
  have HS : Hid (St w X a t i d) := h
  clear h
  go_enter Try.func19, Try.ntmps19
  go_wp2_with fail
  refine (next_minus HS.out).mono ?_
  rintro e w1 ⟨b1, j1, s1, rfl, st1, gr1, hp1, hs1⟩
  have hst1 : Hid (St w1 X a t j1 d) := st1
  have hgr1 : Hid (w.grownBy w1 (some X)) := gr1
  have HP1 : Hid (NR t i 0 = NR t j1 s1) := hp1
  have HS1 : Hid ((s1 = 0 ∧ t[j1]? ≠ some 45) ∨ s1 = 1) := hs1
  have HS1' : Hid (s1 = 0 ∨ s1 = 1) := by
    rcases hs1 with ⟨h, _⟩ | h
    · exact .inl h
    · exact .inr h
  clear st1 gr1 hp1 hs1 HS
  by_cases hz : t[j1]? = some 48
  · go_wp2_with (first | (go_at_call_of 25 (Value.int .u8 48); refine (next_yes 48 48 rfl hst1.out hz).mono ?_; rintro e w2 ⟨rfl, st4, gr4⟩; have hst2 : Hid (St w2 X a t (j1 + 1) d) := st4; have hgr2 : Hid (w.grownBy w2 (some X)) := G.trans hgr1.out gr4; clear st4 gr4))
    have HP2 : Hid (NR t i 0 = NR t (j1 + 1) 2) := HP1.out.trans (n_zero HS1'.out hz)
    have HI2 : Hid (inInt t (j1 + 1) 2) := .inl rfl
    obtain ⟨s2, HS2⟩ : ∃ s2 : Nat, Hid (s2 = 2) := ⟨2, rfl⟩
    rw [← HS2.out] at HP2 HI2
    generalize j1 + 1 = j2 at *
    clear hz HP1 HS1 HS1' hst1
    by_cases hdot : t[j2]? = some 46
    · by_cases hk2 : 0 < dg (t.drop (j2 + 1))
      · have hkd : decide (0 < dg (t.drop (j2 + 1))) = true := decide_eq_true hk2
        go_wp2_with (first | (go_at_call_of 25 (Value.int .u8 46); refine (next_yes 46 46 rfl hst2.out hdot).mono ?_; rintro e w2' ⟨rfl, st4, gr4⟩; have hst2' : Hid (St w2' X a t (j2 + 1) d) := st4; have hgr2' : Hid (w2.grownBy w2' (some X)) := gr4; clear st4 gr4) | (go_at_call 32; refine (digits_any hst2'.out).mono ?_; rintro e w3 ⟨rfl, st4, gr4⟩; have hst3 : Hid (St w3 X a t (j2 + 1 + dg (t.drop (j2 + 1))) d) := st4; have hgr3 : Hid (w.grownBy w3 (some X)) := G.trans (G.trans hgr2.out hgr2'.out) gr4; clear st4 gr4))
        have HP3 : Hid (NR t i 0 = NR t (j2 + 1 + dg (t.drop (j2 + 1))) 5) := (HP2.out.trans (n_dot HI2.out hdot)).trans (n_frac hk2)
        have HA3 : Hid (aheadExp t (j2 + 1 + dg (t.drop (j2 + 1))) 5) := .inr (.inr ⟨rfl, dg_at _ _ (Nat.le_refl _)⟩)
        obtain ⟨s3, HS3⟩ : ∃ s3 : Nat, Hid (s3 = 5) := ⟨5, rfl⟩
        rw [← HS3.out] at HP3 HA3
        generalize j2 + 1 + dg (t.drop (j2 + 1)) = j3 at *
        clear hk2 hkd hdot HP2 HI2 hst2
        by_cases he : t[j3]? = some 101
        · go_wp2_with (first | (go_at_call_of 25 (Value.int .u8 101); refine (next_yes 101 101 rfl hst3.out he).mono ?_; rintro e w4 ⟨rfl, st4, gr4⟩; have hst4 : Hid (St w4 X a t (j3 + 1) d) := st4; have hgr4 : Hid (w3.grownBy w4 (some X)) := gr4; clear st4 gr4))
          have HP6 : Hid (NR t i 0 = NR t (j3 + 1) 6) := HP3.out.trans (n_exp HA3.out (.inl he))
          by_cases hp : t[j3 + 1]? = some 43
          · go_wp2_with (go_at_call 25; refine (next_yes 43 43 rfl hst4.out hp).mono ?_; rintro e w5 ⟨rfl, st5, gr5⟩; have hst5 : Hid (St w5 X a t (j3 + 1 + 1) d) := st5; have hgr5 : Hid (w4.grownBy w5 (some X)) := gr5; clear st5 gr5)
            refine (digits_any hst5.out).mono ?_
            rintro e w6 ⟨rfl, st6, gr6⟩
            obtain ⟨z1, z2⟩ := n_expdigs (t := t) (j := j3 + 1 + 1) (s := 7) (.inl rfl)
            go_wp2
            go_ret
            exact ⟨ret_bool (by rw [HP6.out, n_sign (.inl hp)]; exact z2.symm), by rw [HP6.out, n_sign (.inl hp), z1]; exact st6, G.trans (G.trans (G.trans hgr3.out hgr4.out) hgr5.out) gr6⟩
          · by_cases hm : t[j3 + 1]? = some 45
            · go_wp2_with (first | (go_at_call_of 25 (Value.int .u8 43); refine (next_no 43 43 rfl hst4.out hp).mono ?_; rintro e w5 ⟨rfl, st5, gr5⟩; have hst5 : Hid (St w5 X a t (j3 + 1) d) := st5; have hgr5 : Hid (w4.grownBy w5 (some X)) := gr5; clear st5 gr5) | (go_at_call_of 25 (Value.int .u8 45); refine (next_yes 45 45 rfl hst5.out hm).mono ?_; rintro e w6 ⟨rfl, st6, gr6⟩; have hst6 : Hid (St w6 X a t (j3 + 1 + 1) d) := st6; have hgr6 : Hid (w5.grownBy w6 (some X)) := gr6; clear st6 gr6))
              refine (digits_any hst6.out).mono ?_
              rintro e w7 ⟨rfl, st7, gr7⟩
              obtain ⟨z1, z2⟩ := n_expdigs (t := t) (j := j3 + 1 + 1) (s := 7) (.inl rfl)
              go_wp2
              go_ret
              exact ⟨ret_bool (by rw [HP6.out, n_sign (.inr hm)]; exact z2.symm), by rw [HP6.out, n_sign (.inr hm), z1]; exact st7, G.trans (G.trans (G.trans (G.trans hgr3.out hgr4.out) hgr5.out) hgr6.out) gr7⟩
            · go_wp2_with (first | (go_at_call_of 25 (Value.int .u8 43); refine (next_no 43 43 rfl hst4.out hp).mono ?_; rintro e w5 ⟨rfl, st5, gr5⟩; have hst5 : Hid (St w5 X a t (j3 + 1) d) := st5; have hgr5 : Hid (w4.grownBy w5 (some X)) := gr5; clear st5 gr5) | (go_at_call_of 25 (Value.int .u8 45); refine (next_no 45 45 rfl hst5.out hm).mono ?_; rintro e w6 ⟨rfl, st6, gr6⟩; have hst6 : Hid (St w6 X a t (j3 + 1) d) := st6; have hgr6 : Hid (w5.grownBy w6 (some X)) := gr6; clear st6 gr6))
              refine (digits_any hst6.out).mono ?_
              rintro e w7 ⟨rfl, st7, gr7⟩
              obtain ⟨z1, z2⟩ := n_expdigs (t := t) (j := j3 + 1) (s := 6) (.inr ⟨rfl, hp, hm⟩)
              go_wp2
              go_ret
              exact ⟨ret_bool (by rw [HP6.out]; exact z2.symm), by rw [HP6.out, z1]; exact st7, G.trans (G.trans (G.trans (G.trans hgr3.out hgr4.out) hgr5.out) hgr6.out) gr7⟩
        · by_cases hE : t[j3]? = some 69
          · go_wp2_with (first | (go_at_call_of 25 (Value.int .u8 101); refine (next_no 101 101 rfl hst3.out he).mono ?_; rintro e w3' ⟨rfl, st4, gr4⟩; have hst3' : Hid (St w3' X a t j3 d) := st4; have hgr3' : Hid (w3.grownBy w3' (some X)) := gr4; clear st4 gr4) | (go_at_call_of 25 (Value.int .u8 69); refine (next_yes 69 69 rfl hst3'.out hE).mono ?_; rintro e w4 ⟨rfl, st4, gr4⟩; have hst4 : Hid (St w4 X a t (j3 + 1) d) := st4; have hgr4 : Hid (w3.grownBy w4 (some X)) := G.trans hgr3'.out gr4; clear st4 gr4))
            have HP6 : Hid (NR t i 0 = NR t (j3 + 1) 6) := HP3.out.trans (n_exp HA3.out (.inr hE))
            by_cases hp : t[j3 + 1]? = some 43
            · go_wp2_with (go_at_call 25; refine (next_yes 43 43 rfl hst4.out hp).mono ?_; rintro e w5 ⟨rfl, st5, gr5⟩; have hst5 : Hid (St w5 X a t (j3 + 1 + 1) d) := st5; have hgr5 : Hid (w4.grownBy w5 (some X)) := gr5; clear st5 gr5)
              refine (digits_any hst5.out).mono ?_
              rintro e w6 ⟨rfl, st6, gr6⟩
              obtain ⟨z1, z2⟩ := n_expdigs (t := t) (j := j3 + 1 + 1) (s := 7) (.inl rfl)
              go_wp2
              go_ret
              exact ⟨ret_bool (by rw [HP6.out, n_sign (.inl hp)]; exact z2.symm), by rw [HP6.out, n_sign (.inl hp), z1]; exact st6, G.trans (G.trans (G.trans hgr3.out hgr4.out) hgr5.out) gr6⟩
            · by_cases hm : t[j3 + 1]? = some 45
              · go_wp2_with (first | (go_at_call_of 25 (Value.int .u8 43); refine (next_no 43 43 rfl hst4.out hp).mono ?_; rintro e w5 ⟨rfl, st5, gr5⟩; have hst5 : Hid (St w5 X a t (j3 + 1) d) := st5; have hgr5 : Hid (w4.grownBy w5 (some X)) := gr5; clear st5 gr5) | (go_at_call_of 25 (Value.int .u8 45); refine (next_yes 45 45 rfl hst5.out hm).mono ?_; rintro e w6 ⟨rfl, st6, gr6⟩; have hst6 : Hid (St w6 X a t (j3 + 1 + 1) d) := st6; have hgr6 : Hid (w5.grownBy w6 (some X)) := gr6; clear st6 gr6))
                refine (digits_any hst6.out).mono ?_
                rintro e w7 ⟨rfl, st7, gr7⟩
                obtain ⟨z1, z2⟩ := n_expdigs (t := t) (j := j3 + 1 + 1) (s := 7) (.inl rfl)
                go_wp2
                go_ret
                exact ⟨ret_bool (by rw [HP6.out, n_sign (.inr hm)]; exact z2.symm), by rw [HP6.out, n_sign (.inr hm), z1]; exact st7, G.trans (G.trans (G.trans (G.trans hgr3.out hgr4.out) hgr5.out) hgr6.out) gr7⟩
              · go_wp2_with (first | (go_at_call_of 25 (Value.int .u8 43); refine (next_no 43 43 rfl hst4.out hp).mono ?_; rintro e w5 ⟨rfl, st5, gr5⟩; have hst5 : Hid (St w5 X a t (j3 + 1) d) := st5; have hgr5 : Hid (w4.grownBy w5 (some X)) := gr5; clear st5 gr5) | (go_at_call_of 25 (Value.int .u8 45); refine (next_no 45 45 rfl hst5.out hm).mono ?_; rintro e w6 ⟨rfl, st6, gr6⟩; have hst6 : Hid (St w6 X a t (j3 + 1) d) := st6; have hgr6 : Hid (w5.grownBy w6 (some X)) := gr6; clear st6 gr6))
                refine (digits_any hst6.out).mono ?_
                rintro e w7 ⟨rfl, st7, gr7⟩
                obtain ⟨z1, z2⟩ := n_expdigs (t := t) (j := j3 + 1) (s := 6) (.inr ⟨rfl, hp, hm⟩)
                go_wp2
                go_ret
                exact ⟨ret_bool (by rw [HP6.out]; exact z2.symm), by rw [HP6.out, z1]; exact st7, G.trans (G.trans (G.trans (G.trans hgr3.out hgr4.out) hgr5.out) hgr6.out) gr7⟩
          · obtain ⟨z1, z2⟩ := n_end HA3.out he hE
            have HZ : Hid (NR t j3 s3 = (j3, s3)) := z1
            have HZ2 : Hid (numAcc s3 = true) := z2
            clear z1 z2
            go_wp2_with (first | (go_at_call_of 25 (Value.int .u8 101); refine (next_no 101 101 rfl hst3.out he).mono ?_; rintro e w3' ⟨rfl, st4, gr4⟩; have hst3' : Hid (St w3' X a t j3 d) := st4; have hgr3' : Hid (w3.grownBy w3' (some X)) := gr4; clear st4 gr4) | (go_at_call_of 25 (Value.int .u8 69); refine (next_no 69 69 rfl hst3'.out hE).mono ?_; rintro e w4 ⟨rfl, st4, gr4⟩; have hst4 : Hid (St w4 X a t j3 d) := st4; have hgr4 : Hid (w3.grownBy w4 (some X)) := G.trans hgr3'.out gr4; clear st4 gr4))
            go_ret
            exact ⟨ret_bool (by rw [HP3.out, HZ.out]; exact HZ2.out.symm), by rw [HP3.out, HZ.out]; exact hst4.out, G.trans hgr3.out hgr4.out⟩
      · have hkd : decide (0 < dg (t.drop (j2 + 1))) = false := decide_eq_false hk2
        go_wp2_with (first | (go_at_call_of 25 (Value.int .u8 46); refine (next_yes 46 46 rfl hst2.out hdot).mono ?_; rintro e w2' ⟨rfl, st4, gr4⟩; have hst2' : Hid (St w2' X a t (j2 + 1) d) := st4; have hgr2' : Hid (w2.grownBy w2' (some X)) := gr4; clear st4 gr4) | (go_at_call 32; refine (digits_any hst2'.out).mono ?_; rintro e w3 ⟨rfl, st4, gr4⟩; have hst3 : Hid (St w3 X a t (j2 + 1 + dg (t.drop (j2 + 1))) d) := st4; have hgr3 : Hid (w.grownBy w3 (some X)) := G.trans (G.trans hgr2.out hgr2'.out) gr4; clear st4 gr4))
        go_ret
        have hz : dg (t.drop (j2 + 1)) = 0 := by omega
        have hz3 := hst3.out
        rw [hz, Nat.add_zero] at hz3
        exact ⟨ret_bool (by rw [HP2.out, n_dot HI2.out hdot, n_nofrac hz]; rfl), by rw [HP2.out, n_dot HI2.out hdot, n_nofrac hz]; exact hz3, hgr3.out⟩
    · have HA3 : Hid (aheadExp t j2 s2) := by
        rcases HI2.out with h | ⟨h, h'⟩
        · exact .inl ⟨h, hdot⟩
        · exact .inr (.inl ⟨h, h', hdot⟩)
      have HP3 := HP2
      go_wp2_with (first | (go_at_call_of 25 (Value.int .u8 46); refine (next_no 46 46 rfl hst2.out hdot).mono ?_; rintro e w3 ⟨rfl, st4, gr4⟩; have hst3 : Hid (St w3 X a t j2 d) := st4; have hgr3 : Hid (w.grownBy w3 (some X)) := G.trans hgr2.out gr4; clear st4 gr4))
      clear HP2 HI2 hst2 hdot
      generalize j2 = j3 at *
      generalize s2 = s3 at *
      by_cases he : t[j3]? = some 101
      · go_wp2_with (first | (go_at_call_of 25 (Value.int .u8 101); refine (next_yes 101 101 rfl hst3.out he).mono ?_; rintro e w4 ⟨rfl, st4, gr4⟩; have hst4 : Hid (St w4 X a t (j3 + 1) d) := st4; have hgr4 : Hid (w3.grownBy w4 (some X)) := gr4; clear st4 gr4))
        have HP6 : Hid (NR t i 0 = NR t (j3 + 1) 6) := HP3.out.trans (n_exp HA3.out (.inl he))
        by_cases hp : t[j3 + 1]? = some 43
        · go_wp2_with (go_at_call 25; refine (next_yes 43 43 rfl hst4.out hp).mono ?_; rintro e w5 ⟨rfl, st5, gr5⟩; have hst5 : Hid (St w5 X a t (j3 + 1 + 1) d) := st5; have hgr5 : Hid (w4.grownBy w5 (some X)) := gr5; clear st5 gr5)
          refine (digits_any hst5.out).mono ?_
          rintro e w6 ⟨rfl, st6, gr6⟩
          obtain ⟨z1, z2⟩ := n_expdigs (t := t) (j := j3 + 1 + 1) (s := 7) (.inl rfl)
          go_wp2
          go_ret
          exact ⟨ret_bool (by rw [HP6.out, n_sign (.inl hp)]; exact z2.symm), by rw [HP6.out, n_sign (.inl hp), z1]; exact st6, G.trans (G.trans (G.trans hgr3.out hgr4.out) hgr5.out) gr6⟩
        · by_cases hm : t[j3 + 1]? = some 45
          · go_wp2_with (first | (go_at_call_of 25 (Value.int .u8 43); refine (next_no 43 43 rfl hst4.out hp).mono ?_; rintro e w5 ⟨rfl, st5, gr5⟩; have hst5 : Hid (St w5 X a t (j3 + 1) d) := st5; have hgr5 : Hid (w4.grownBy w5 (some X)) := gr5; clear st5 gr5) | (go_at_call_of 25 (Value.int .u8 45); refine (next_yes 45 45 rfl hst5.out hm).mono ?_; rintro e w6 ⟨rfl, st6, gr6⟩; have hst6 : Hid (St w6 X a t (j3 + 1 + 1) d) := st6; have hgr6 : Hid (w5.grownBy w6 (some X)) := gr6; clear st6 gr6))
            refine (digits_any hst6.out).mono ?_
            rintro e w7 ⟨rfl, st7, gr7⟩
            obtain ⟨z1, z2⟩ := n_expdigs (t := t) (j := j3 + 1 + 1) (s := 7) (.inl rfl)
            go_wp2
            go_ret
            exact ⟨ret_bool (by rw [HP6.out, n_sign (.inr hm)]; exact z2.symm), by rw [HP6.out, n_sign (.inr hm), z1]; exact st7, G.trans (G.trans (G.trans (G.trans hgr3.out hgr4.out) hgr5.out) hgr6.out) gr7⟩
          · go_wp2_with (first | (go_at_call_of 25 (Value.int .u8 43); refine (next_no 43 43 rfl hst4.out hp).mono ?_; rintro e w5 ⟨rfl, st5, gr5⟩; have hst5 : Hid (St w5 X a t (j3 + 1) d) := st5; have hgr5 : Hid (w4.grownBy w5 (some X)) := gr5; clear st5 gr5) | (go_at_call_of 25 (Value.int .u8 45); refine (next_no 45 45 rfl hst5.out hm).mono ?_; rintro e w6 ⟨rfl, st6, gr6⟩; have hst6 : Hid (St w6 X a t (j3 + 1) d) := st6; have hgr6 : Hid (w5.grownBy w6 (some X)) := gr6; clear st6 gr6))
            refine (digits_any hst6.out).mono ?_
            rintro e w7 ⟨rfl, st7, gr7⟩
            obtain ⟨z1, z2⟩ := n_expdigs (t := t) (j := j3 + 1) (s := 6) (.inr ⟨rfl, hp, hm⟩)
            go_wp2
            go_ret
            exact ⟨ret_bool (by rw [HP6.out]; exact z2.symm), by rw [HP6.out, z1]; exact st7, G.trans (G.trans (G.trans (G.trans hgr3.out hgr4.out) hgr5.out) hgr6.out) gr7⟩
      · by_cases hE : t[j3]? = some 69
        · go_wp2_with (first | (go_at_call_of 25 (Value.int .u8 101); refine (next_no 101 101 rfl hst3.out he).mono ?_; rintro e w3' ⟨rfl, st4, gr4⟩; have hst3' : Hid (St w3' X a t j3 d) := st4; have hgr3' : Hid (w3.grownBy w3' (some X)) := gr4; clear st4 gr4) | (go_at_call_of 25 (Value.int .u8 69); refine (next_yes 69 69 rfl hst3'.out hE).mono ?_; rintro e w4 ⟨rfl, st4, gr4⟩; have hst4 : Hid (St w4 X a t (j3 + 1) d) := st4; have hgr4 : Hid (w3.grownBy w4 (some X)) := G.trans hgr3'.out gr4; clear st4 gr4))
          have HP6 : Hid (NR t i 0 = NR t (j3 + 1) 6) := HP3.out.trans (n_exp HA3.out (.inr hE))
          by_cases hp : t[j3 + 1]? = some 43
          · go_wp2_with (go_at_call 25; refine (next_yes 43 43 rfl hst4.out hp).mono ?_; rintro e w5 ⟨rfl, st5, gr5⟩; have hst5 : Hid (St w5 X a t (j3 + 1 + 1) d) := st5; have hgr5 : Hid (w4.grownBy w5 (some X)) := gr5; clear st5 gr5)
            refine (digits_any hst5.out).mono ?_
            rintro e w6 ⟨rfl, st6, gr6⟩
            obtain ⟨z1, z2⟩ := n_expdigs (t := t) (j := j3 + 1 + 1) (s := 7) (.inl rfl)
            go_wp2
            go_ret
            exact ⟨ret_bool (by rw [HP6.out, n_sign (.inl hp)]; exact z2.symm), by rw [HP6.out, n_sign (.inl hp), z1]; exact st6, G.trans (G.trans (G.trans hgr3.out hgr4.out) hgr5.out) gr6⟩
          · by_cases hm : t[j3 + 1]? = some 45
            · go_wp2_with (first | (go_at_call_of 25 (Value.int .u8 43); refine (next_no 43 43 rfl hst4.out hp).mono ?_; rintro e w5 ⟨rfl, st5, gr5⟩; have hst5 : Hid (St w5 X a t (j3 + 1) d) := st5; have hgr5 : Hid (w4.grownBy w5 (some X)) := gr5; clear st5 gr5) | (go_at_call_of 25 (Value.int .u8 45); refine (next_yes 45 45 rfl hst5.out hm).mono ?_; rintro e w6 ⟨rfl, st6, gr6⟩; have hst6 : Hid (St w6 X a t (j3 + 1 + 1) d) := st6; have hgr6 : Hid (w5.grownBy w6 (some X)) := gr6; clear st6 gr6))
              refine (digits_any hst6.out).mono ?_
              rintro e w7 ⟨rfl, st7, gr7⟩
              obtain ⟨z1, z2⟩ := n_expdigs (t := t) (j := j3 + 1 + 1) (s := 7) (.inl rfl)
              go_wp2
              go_ret
              exact ⟨ret_bool (by rw [HP6.out, n_sign (.inr hm)]; exact z2.symm), by rw [HP6.out, n_sign (.inr hm), z1]; exact st7, G.trans (G.trans (G.trans (G.trans hgr3.out hgr4.out) hgr5.out) hgr6.out) gr7⟩
            · go_wp2_with (first | (go_at_call_of 25 (Value.int .u8 43); refine (next_no 43 43 rfl hst4.out hp).mono ?_; rintro e w5 ⟨rfl, st5, gr5⟩; have hst5 : Hid (St w5 X a t (j3 + 1) d) := st5; have hgr5 : Hid (w4.grownBy w5 (some X)) := gr5; clear st5 gr5) | (go_at_call_of 25 (Value.int .u8 45); refine (next_no 45 45 rfl hst5.out hm).mono ?_; rintro e w6 ⟨rfl, st6, gr6⟩; have hst6 : Hid (St w6 X a t (j3 + 1) d) := st6; have hgr6 : Hid (w5.grownBy w6 (some X)) := gr6; clear st6 gr6))
              refine (digits_any hst6.out).mono ?_
              rintro e w7 ⟨rfl, st7, gr7⟩
              obtain ⟨z1, z2⟩ := n_expdigs (t := t) (j := j3 + 1) (s := 6) (.inr ⟨rfl, hp, hm⟩)
              go_wp2
              go_ret
              exact ⟨ret_bool (by rw [HP6.out]; exact z2.symm), by rw [HP6.out, z1]; exact st7, G.trans (G.trans (G.trans (G.trans hgr3.out hgr4.out) hgr5.out) hgr6.out) gr7⟩
        · obtain ⟨z1, z2⟩ := n_end HA3.out he hE
          have HZ : Hid (NR t j3 s3 = (j3, s3)) := z1
          have HZ2 : Hid (numAcc s3 = true) := z2
          clear z1 z2
          go_wp2_with (first | (go_at_call_of 25 (Value.int .u8 101); refine (next_no 101 101 rfl hst3.out he).mono ?_; rintro e w3' ⟨rfl, st4, gr4⟩; have hst3' : Hid (St w3' X a t j3 d) := st4; have hgr3' : Hid (w3.grownBy w3' (some X)) := gr4; clear st4 gr4) | (go_at_call_of 25 (Value.int .u8 69); refine (next_no 69 69 rfl hst3'.out hE).mono ?_; rintro e w4 ⟨rfl, st4, gr4⟩; have hst4 : Hid (St w4 X a t j3 d) := st4; have hgr4 : Hid (w3.grownBy w4 (some X)) := G.trans hgr3'.out gr4; clear st4 gr4))
          go_ret
          exact ⟨ret_bool (by rw [HP3.out, HZ.out]; exact HZ2.out.symm), by rw [HP3.out, HZ.out]; exact hst4.out, G.trans hgr3.out hgr4.out⟩
  · by_cases hk1 : 0 < dg (t.drop j1)
    · have hkd : decide (0 < dg (t.drop j1)) = true := decide_eq_true hk1
      go_wp2_with (first | (go_at_call_of 25 (Value.int .u8 48); refine (next_no 48 48 rfl hst1.out hz).mono ?_; rintro e w1' ⟨rfl, st4, gr4⟩; have hst1' : Hid (St w1' X a t j1 d) := st4; have hgr1' : Hid (w1.grownBy w1' (some X)) := gr4; clear st4 gr4) | (go_at_call 32; refine (digits_any hst1'.out).mono ?_; rintro e w2 ⟨rfl, st4, gr4⟩; have hst2 : Hid (St w2 X a t (j1 + dg (t.drop j1)) d) := st4; have hgr2 : Hid (w.grownBy w2 (some X)) := G.trans (G.trans hgr1.out hgr1'.out) gr4; clear st4 gr4))
      have HP2 : Hid (NR t i 0 = NR t (j1 + dg (t.drop j1)) 3) := HP1.out.trans (n_int HS1'.out hz hk1)
      have HI2 : Hid (inInt t (j1 + dg (t.drop j1)) 3) := .inr ⟨rfl, dg_at _ _ (Nat.le_refl _)⟩
      obtain ⟨s2, HS2⟩ : ∃ s2 : Nat, Hid (s2 = 3) := ⟨3, rfl⟩
      rw [← HS2.out] at HP2 HI2
      generalize j1 + dg (t.drop j1) = j2 at *
      clear hz hk1 hkd HP1 HS1 HS1' hst1 hst1'
      by_cases hdot : t[j2]? = some 46
      · by_cases hk2 : 0 < dg (t.drop (j2 + 1))
        · have hkd : decide (0 < dg (t.drop (j2 + 1))) = true := decide_eq_true hk2
          go_wp2_with (first | (go_at_call_of 25 (Value.int .u8 46); refine (next_yes 46 46 rfl hst2.out hdot).mono ?_; rintro e w2' ⟨rfl, st4, gr4⟩; have hst2' : Hid (St w2' X a t (j2 + 1) d) := st4; have hgr2' : Hid (w2.grownBy w2' (some X)) := gr4; clear st4 gr4) | (go_at_call 32; refine (digits_any hst2'.out).mono ?_; rintro e w3 ⟨rfl, st4, gr4⟩; have hst3 : Hid (St w3 X a t (j2 + 1 + dg (t.drop (j2 + 1))) d) := st4; have hgr3 : Hid (w.grownBy w3 (some X)) := G.trans (G.trans hgr2.out hgr2'.out) gr4; clear st4 gr4))
          have HP3 : Hid (NR t i 0 = NR t (j2 + 1 + dg (t.drop (j2 + 1))) 5) := (HP2.out.trans (n_dot HI2.out hdot)).trans (n_frac hk2)
          have HA3 : Hid (aheadExp t (j2 + 1 + dg (t.drop (j2 + 1))) 5) := .inr (.inr ⟨rfl, dg_at _ _ (Nat.le_refl _)⟩)
          obtain ⟨s3, HS3⟩ : ∃ s3 : Nat, Hid (s3 = 5) := ⟨5, rfl⟩
          rw [← HS3.out] at HP3 HA3
          generalize j2 + 1 + dg (t.drop (j2 + 1)) = j3 at *
          clear hk2 hkd hdot HP2 HI2 hst2
          by_cases he : t[j3]? = some 101
          · go_wp2_with (first | (go_at_call_of 25 (Value.int .u8 101); refine (next_yes 101 101 rfl hst3.out he).mono ?_; rintro e w4 ⟨rfl, st4, gr4⟩; have hst4 : Hid (St w4 X a t (j3 + 1) d) := st4; have hgr4 : Hid (w3.grownBy w4 (some X)) := gr4; clear st4 gr4))
            have HP6 : Hid (NR t i 0 = NR t (j3 + 1) 6) := HP3.out.trans (n_exp HA3.out (.inl he))
            by_cases hp : t[j3 + 1]? = some 43
            · go_wp2_with (go_at_call 25; refine (next_yes 43 43 rfl hst4.out hp).mono ?_; rintro e w5 ⟨rfl, st5, gr5⟩; have hst5 : Hid (St w5 X a t (j3 + 1 + 1) d) := st5; have hgr5 : Hid (w4.grownBy w5 (some X)) := gr5; clear st5 gr5)
              refine (digits_any hst5.out).mono ?_
              rintro e w6 ⟨rfl, st6, gr6⟩
              obtain ⟨z1, z2⟩ := n_expdigs (t := t) (j := j3 + 1 + 1) (s := 7) (.inl rfl)
              go_wp2
              go_ret
              exact ⟨ret_bool (by rw [HP6.out, n_sign (.inl hp)]; exact z2.symm), by rw [HP6.out, n_sign (.inl hp), z1]; exact st6, G.trans (G.trans (G.trans hgr3.out hgr4.out) hgr5.out) gr6⟩
            · by_cases hm : t[j3 + 1]? = some 45
              · go_wp2_with (first | (go_at_call_of 25 (Value.int .u8 43); refine (next_no 43 43 rfl hst4.out hp).mono ?_; rintro e w5 ⟨rfl, st5, gr5⟩; have hst5 : Hid (St w5 X a t (j3 + 1) d) := st5; have hgr5 : Hid (w4.grownBy w5 (some X)) := gr5; clear st5 gr5) | (go_at_call_of 25 (Value.int .u8 45); refine (next_yes 45 45 rfl hst5.out hm).mono ?_; rintro e w6 ⟨rfl, st6, gr6⟩; have hst6 : Hid (St w6 X a t (j3 + 1 + 1) d) := st6; have hgr6 : Hid (w5.grownBy w6 (some X)) := gr6; clear st6 gr6))
                refine (digits_any hst6.out).mono ?_
                rintro e w7 ⟨rfl, st7, gr7⟩
                obtain ⟨z1, z2⟩ := n_expdigs (t := t) (j := j3 + 1 + 1) (s := 7) (.inl rfl)
                go_wp2
                go_ret
                exact ⟨ret_bool (by rw [HP6.out, n_sign (.inr hm)]; exact z2.symm), by rw [HP6.out, n_sign (.inr hm), z1]; exact st7, G.trans (G.trans (G.trans (G.trans hgr3.out hgr4.out) hgr5.out) hgr6.out) gr7⟩
              · go_wp2_with (first | (go_at_call_of 25 (Value.int .u8 43); refine (next_no 43 43 rfl hst4.out hp).mono ?_; rintro e w5 ⟨rfl, st5, gr5⟩; have hst5 : Hid (St w5 X a t (j3 + 1) d) := st5; have hgr5 : Hid (w4.grownBy w5 (some X)) := gr5; clear st5 gr5) | (go_at_call_of 25 (Value.int .u8 45); refine (next_no 45 45 rfl hst5.out hm).mono ?_; rintro e w6 ⟨rfl, st6, gr6⟩; have hst6 : Hid (St w6 X a t (j3 + 1) d) := st6; have hgr6 : Hid (w5.grownBy w6 (some X)) := gr6; clear st6 gr6))
                refine (digits_any hst6.out).mono ?_
                rintro e w7 ⟨rfl, st7, gr7⟩
                obtain ⟨z1, z2⟩ := n_expdigs (t := t) (j := j3 + 1) (s := 6) (.inr ⟨rfl, hp, hm⟩)
                go_wp2
                go_ret
                exact ⟨ret_bool (by rw [HP6.out]; exact z2.symm), by rw [HP6.out, z1]; exact st7, G.trans (G.trans (G.trans (G.trans hgr3.out hgr4.out) hgr5.out) hgr6.out) gr7⟩
          · by_cases hE : t[j3]? = some 69
            · go_wp2_with (first | (go_at_call_of 25 (Value.int .u8 101); refine (next_no 101 101 rfl hst3.out he).mono ?_; rintro e w3' ⟨rfl, st4, gr4⟩; have hst3' : Hid (St w3' X a t j3 d) := st4; have hgr3' : Hid (w3.grownBy w3' (some X)) := gr4; clear st4 gr4) | (go_at_call_of 25 (Value.int .u8 69); refine (next_yes 69 69 rfl hst3'.out hE).mono ?_; rintro e w4 ⟨rfl, st4, gr4⟩; have hst4 : Hid (St w4 X a t (j3 + 1) d) := st4; have hgr4 : Hid (w3.grownBy w4 (some X)) := G.trans hgr3'.out gr4; clear st4 gr4))
              have HP6 : Hid (NR t i 0 = NR t (j3 + 1) 6) := HP3.out.trans (n_exp HA3.out (.inr hE))
              by_cases hp : t[j3 + 1]? = some 43
              · go_wp2_with (go_at_call 25; refine (next_yes 43 43 rfl hst4.out hp).mono ?_; rintro e w5 ⟨rfl, st5, gr5⟩; have hst5 : Hid (St w5 X a t (j3 + 1 + 1) d) := st5; have hgr5 : Hid (w4.grownBy w5 (some X)) := gr5; clear st5 gr5)
                refine (digits_any hst5.out).mono ?_
                rintro e w6 ⟨rfl, st6, gr6⟩
                obtain ⟨z1, z2⟩ := n_expdigs (t := t) (j := j3 + 1 + 1) (s := 7) (.inl rfl)
                go_wp2
                go_ret
                exact ⟨ret_bool (by rw [HP6.out, n_sign (.inl hp)]; exact z2.symm), by rw [HP6.out, n_sign (.inl hp), z1]; exact st6, G.trans (G.trans (G.trans hgr3.out hgr4.out) hgr5.out) gr6⟩
              · by_cases hm : t[j3 + 1]? = some 45
                · go_wp2_with (first | (go_at_call_of 25 (Value.int .u8 43); refine (next_no 43 43 rfl hst4.out hp).mono ?_; rintro e w5 ⟨rfl, st5, gr5⟩; have hst5 : Hid (St w5 X a t (j3 + 1) d) := st5; have hgr5 : Hid (w4.grownBy w5 (some X)) := gr5; clear st5 gr5) | (go_at_call_of 25 (Value.int .u8 45); refine (next_yes 45 45 rfl hst5.out hm).mono ?_; rintro e w6 ⟨rfl, st6, gr6⟩; have hst6 : Hid (St w6 X a t (j3 + 1 + 1) d) := st6; have hgr6 : Hid (w5.grownBy w6 (some X)) := gr6; clear st6 gr6))
                  refine (digits_any hst6.out).mono ?_
                  rintro e w7 ⟨rfl, st7, gr7⟩
                  obtain ⟨z1, z2⟩ := n_expdigs (t := t) (j := j3 + 1 + 1) (s := 7) (.inl rfl)
                  go_wp2
                  go_ret
                  exact ⟨ret_bool (by rw [HP6.out, n_sign (.inr hm)]; exact z2.symm), by rw [HP6.out, n_sign (.inr hm), z1]; exact st7, G.trans (G.trans (G.trans (G.trans hgr3.out hgr4.out) hgr5.out) hgr6.out) gr7⟩
                · go_wp2_with (first | (go_at_call_of 25 (Value.int .u8 43); refine (next_no 43 43 rfl hst4.out hp).mono ?_; rintro e w5 ⟨rfl, st5, gr5⟩; have hst5 : Hid (St w5 X a t (j3 + 1) d) := st5; have hgr5 : Hid (w4.grownBy w5 (some X)) := gr5; clear st5 gr5) | (go_at_call_of 25 (Value.int .u8 45); refine (next_no 45 45 rfl hst5.out hm).mono ?_; rintro e w6 ⟨rfl, st6, gr6⟩; have hst6 : Hid (St w6 X a t (j3 + 1) d) := st6; have hgr6 : Hid (w5.grownBy w6 (some X)) := gr6; clear st6 gr6))
                  refine (digits_any hst6.out).mono ?_
                  rintro e w7 ⟨rfl, st7, gr7⟩
                  obtain ⟨z1, z2⟩ := n_expdigs (t := t) (j := j3 + 1) (s := 6) (.inr ⟨rfl, hp, hm⟩)
                  go_wp2
                  go_ret
                  exact ⟨ret_bool (by rw [HP6.out]; exact z2.symm), by rw [HP6.out, z1]; exact st7, G.trans (G.trans (G.trans (G.trans hgr3.out hgr4.out) hgr5.out) hgr6.out) gr7⟩
            · obtain ⟨z1, z2⟩ := n_end HA3.out he hE
              have HZ : Hid (NR t j3 s3 = (j3, s3)) := z1
              have HZ2 : Hid (numAcc s3 = true) := z2
              clear z1 z2
              go_wp2_with (first | (go_at_call_of 25 (Value.int .u8 101); refine (next_no 101 101 rfl hst3.out he).mono ?_; rintro e w3' ⟨rfl, st4, gr4⟩; have hst3' : Hid (St w3' X a t j3 d) := st4; have hgr3' : Hid (w3.grownBy w3' (some X)) := gr4; clear st4 gr4) | (go_at_call_of 25 (Value.int .u8 69); refine (next_no 69 69 rfl hst3'.out hE).mono ?_; rintro e w4 ⟨rfl, st4, gr4⟩; have hst4 : Hid (St w4 X a t j3 d) := st4; have hgr4 : Hid (w3.grownBy w4 (some X)) := G.trans hgr3'.out gr4; clear st4 gr4))
              go_ret
              exact ⟨ret_bool (by rw [HP3.out, HZ.out]; exact HZ2.out.symm), by rw [HP3.out, HZ.out]; exact hst4.out, G.trans hgr3.out hgr4.out⟩
        · have hkd : decide (0 < dg (t.drop (j2 + 1))) = false := decide_eq_false hk2
          go_wp2_with (first | (go_at_call_of 25 (Value.int .u8 46); refine (next_yes 46 46 rfl hst2.out hdot).mono ?_; rintro e w2' ⟨rfl, st4, gr4⟩; have hst2' : Hid (St w2' X a t (j2 + 1) d) := st4; have hgr2' : Hid (w2.grownBy w2' (some X)) := gr4; clear st4 gr4) | (go_at_call 32; refine (digits_any hst2'.out).mono ?_; rintro e w3 ⟨rfl, st4, gr4⟩; have hst3 : Hid (St w3 X a t (j2 + 1 + dg (t.drop (j2 + 1))) d) := st4; have hgr3 : Hid (w.grownBy w3 (some X)) := G.trans (G.trans hgr2.out hgr2'.out) gr4; clear st4 gr4))
          go_ret
          have hz : dg (t.drop (j2 + 1)) = 0 := by omega
          have hz3 := hst3.out
          rw [hz, Nat.add_zero] at hz3
          exact ⟨ret_bool (by rw [HP2.out, n_dot HI2.out hdot, n_nofrac hz]; rfl), by rw [HP2.out, n_dot HI2.out hdot, n_nofrac hz]; exact hz3, hgr3.out⟩
      · have HA3 : Hid (aheadExp t j2 s2) := by
          rcases HI2.out with h | ⟨h, h'⟩
          · exact .inl ⟨h, hdot⟩
          · exact .inr (.inl ⟨h, h', hdot⟩)
        have HP3 := HP2
        go_wp2_with (first | (go_at_call_of 25 (Value.int .u8 46); refine (next_no 46 46 rfl hst2.out hdot).mono ?_; rintro e w3 ⟨rfl, st4, gr4⟩; have hst3 : Hid (St w3 X a t j2 d) := st4; have hgr3 : Hid (w.grownBy w3 (some X)) := G.trans hgr2.out gr4; clear st4 gr4))
        clear HP2 HI2 hst2 hdot
        generalize j2 = j3 at *
        generalize s2 = s3 at *
        by_cases he : t[j3]? = some 101
        · go_wp2_with (first | (go_at_call_of 25 (Value.int .u8 101); refine (next_yes 101 101 rfl hst3.out he).mono ?_; rintro e w4 ⟨rfl, st4, gr4⟩; have hst4 : Hid (St w4 X a t (j3 + 1) d) := st4; have hgr4 : Hid (w3.grownBy w4 (some X)) := gr4; clear st4 gr4))
          have HP6 : Hid (NR t i 0 = NR t (j3 + 1) 6) := HP3.out.trans (n_exp HA3.out (.inl he))
          by_cases hp : t[j3 + 1]? = some 43
          · go_wp2_with (go_at_call 25; refine (next_yes 43 43 rfl hst4.out hp).mono ?_; rintro e w5 ⟨rfl, st5, gr5⟩; have hst5 : Hid (St w5 X a t (j3 + 1 + 1) d) := st5; have hgr5 : Hid (w4.grownBy w5 (some X)) := gr5; clear st5 gr5)
            refine (digits_any hst5.out).mono ?_
            rintro e w6 ⟨rfl, st6, gr6⟩
            obtain ⟨z1, z2⟩ := n_expdigs (t := t) (j := j3 + 1 + 1) (s := 7) (.inl rfl)
            go_wp2
            go_ret
            exact ⟨ret_bool (by rw [HP6.out, n_sign (.inl hp)]; exact z2.symm), by rw [HP6.out, n_sign (.inl hp), z1]; exact st6, G.trans (G.trans (G.trans hgr3.out hgr4.out) hgr5.out) gr6⟩
          · by_cases hm : t[j3 + 1]? = some 45
            · go_wp2_with (first | (go_at_call_of 25 (Value.int .u8 43); refine (next_no 43 43 rfl hst4.out hp).mono ?_; rintro e w5 ⟨rfl, st5, gr5⟩; have hst5 : Hid (St w5 X a t (j3 + 1) d) := st5; have hgr5 : Hid (w4.grownBy w5 (some X)) := gr5; clear st5 gr5) | (go_at_call_of 25 (Value.int .u8 45); refine (next_yes 45 45 rfl hst5.out hm).mono ?_; rintro e w6 ⟨rfl, st6, gr6⟩; have hst6 : Hid (St w6 X a t (j3 + 1 + 1) d) := st6; have hgr6 : Hid (w5.grownBy w6 (some X)) := gr6; clear st6 gr6))
              refine (digits_any hst6.out).mono ?_
              rintro e w7 ⟨rfl, st7, gr7⟩
              obtain ⟨z1, z2⟩ := n_expdigs (t := t) (j := j3 + 1 + 1) (s := 7) (.inl rfl)
              go_wp2
              go_ret
              exact ⟨ret_bool (by rw [HP6.out, n_sign (.inr hm)]; exact z2.symm), by rw [HP6.out, n_sign (.inr hm), z1]; exact st7, G.trans (G.trans (G.trans (G.trans hgr3.out hgr4.out) hgr5.out) hgr6.out) gr7⟩
            · go_wp2_with (first | (go_at_call_of 25 (Value.int .u8 43); refine (next_no 43 43 rfl hst4.out hp).mono ?_; rintro e w5 ⟨rfl, st5, gr5⟩; have hst5 : Hid (St w5 X a t (j3 + 1) d) := st5; have hgr5 : Hid (w4.grownBy w5 (some X)) := gr5; clear st5 gr5) | (go_at_call_of 25 (Value.int .u8 45); refine (next_no 45 45 rfl hst5.out hm).mono ?_; rintro e w6 ⟨rfl, st6, gr6⟩; have hst6 : Hid (St w6 X a t (j3 + 1) d) := st6; have hgr6 : Hid (w5.grownBy w6 (some X)) := gr6; clear st6 gr6))
              refine (digits_any hst6.out).mono ?_
              rintro e w7 ⟨rfl, st7, gr7⟩
              obtain ⟨z1, z2⟩ := n_expdigs (t := t) (j := j3 + 1) (s := 6) (.inr ⟨rfl, hp, hm⟩)
              go_wp2
              go_ret
              exact ⟨ret_bool (by rw [HP6.out]; exact z2.symm), by rw [HP6.out, z1]; exact st7, G.trans (G.trans (G.trans (G.trans hgr3.out hgr4.out) hgr5.out) hgr6.out) gr7⟩
        · by_cases hE : t[j3]? = some 69
          · go_wp2_with (first | (go_at_call_of 25 (Value.int .u8 101); refine (next_no 101 101 rfl hst3.out he).mono ?_; rintro e w3' ⟨rfl, st4, gr4⟩; have hst3' : Hid (St w3' X a t j3 d) := st4; have hgr3' : Hid (w3.grownBy w3' (some X)) := gr4; clear st4 gr4) | (go_at_call_of 25 (Value.int .u8 69); refine (next_yes 69 69 rfl hst3'.out hE).mono ?_; rintro e w4 ⟨rfl, st4, gr4⟩; have hst4 : Hid (St w4 X a t (j3 + 1) d) := st4; have hgr4 : Hid (w3.grownBy w4 (some X)) := G.trans hgr3'.out gr4; clear st4 gr4))
            have HP6 : Hid (NR t i 0 = NR t (j3 + 1) 6) := HP3.out.trans (n_exp HA3.out (.inr hE))
            by_cases hp : t[j3 + 1]? = some 43
            · go_wp2_with (go_at_call 25; refine (next_yes 43 43 rfl hst4.out hp).mono ?_; rintro e w5 ⟨rfl, st5, gr5⟩; have hst5 : Hid (St w5 X a t (j3 + 1 + 1) d) := st5; have hgr5 : Hid (w4.grownBy w5 (some X)) := gr5; clear st5 gr5)
              refine (digits_any hst5.out).mono ?_
              rintro e w6 ⟨rfl, st6, gr6⟩
              obtain ⟨z1, z2⟩ := n_expdigs (t := t) (j := j3 + 1 + 1) (s := 7) (.inl rfl)
              go_wp2
              go_ret
              exact ⟨ret_bool (by rw [HP6.out, n_sign (.inl hp)]; exact z2.symm), by rw [HP6.out, n_sign (.inl hp), z1]; exact st6, G.trans (G.trans (G.trans hgr3.out hgr4.out) hgr5.out) gr6⟩
            · by_cases hm : t[j3 + 1]? = some 45
              · go_wp2_with (first | (go_at_call_of 25 (Value.int .u8 43); refine (next_no 43 43 rfl hst4.out hp).mono ?_; rintro e w5 ⟨rfl, st5, gr5⟩; have hst5 : Hid (St w5 X a t (j3 + 1) d) := st5; have hgr5 : Hid (w4.grownBy w5 (some X)) := gr5; clear st5 gr5) | (go_at_call_of 25 (Value.int .u8 45); refine (next_yes 45 45 rfl hst5.out hm).mono ?_; rintro e w6 ⟨rfl, st6, gr6⟩; have hst6 : Hid (St w6 X a t (j3 + 1 + 1) d) := st6; have hgr6 : Hid (w5.grownBy w6 (some X)) := gr6; clear st6 gr6))
                refine (digits_any hst6.out).mono ?_
                rintro e w7 ⟨rfl, st7, gr7⟩
                obtain ⟨z1, z2⟩ := n_expdigs (t := t) (j := j3 + 1 + 1) (s := 7) (.inl rfl)
                go_wp2
                go_ret
                exact ⟨ret_bool (by rw [HP6.out, n_sign (.inr hm)]; exact z2.symm), by rw [HP6.out, n_sign (.inr hm), z1]; exact st7, G.trans (G.trans (G.trans (G.trans hgr3.out hgr4.out) hgr5.out) hgr6.out) gr7⟩
              · go_wp2_with (first | (go_at_call_of 25 (Value.int .u8 43); refine (next_no 43 43 rfl hst4.out hp).mono ?_; rintro e w5 ⟨rfl, st5, gr5⟩; have hst5 : Hid (St w5 X a t (j3 + 1) d) := st5; have hgr5 : Hid (w4.grownBy w5 (some X)) := gr5; clear st5 gr5) | (go_at_call_of 25 (Value.int .u8 45); refine (next_no 45 45 rfl hst5.out hm).mono ?_; rintro e w6 ⟨rfl, st6, gr6⟩; have hst6 : Hid (St w6 X a t (j3 + 1) d) := st6; have hgr6 : Hid (w5.grownBy w6 (some X)) := gr6; clear st6 gr6))
                refine (digits_any hst6.out).mono ?_
                rintro e w7 ⟨rfl, st7, gr7⟩
                obtain ⟨z1, z2⟩ := n_expdigs (t := t) (j := j3 + 1) (s := 6) (.inr ⟨rfl, hp, hm⟩)
                go_wp2
                go_ret
                exact ⟨ret_bool (by rw [HP6.out]; exact z2.symm), by rw [HP6.out, z1]; exact st7, G.trans (G.trans (G.trans (G.trans hgr3.out hgr4.out) hgr5.out) hgr6.out) gr7⟩
          · obtain ⟨z1, z2⟩ := n_end HA3.out he hE
            have HZ : Hid (NR t j3 s3 = (j3, s3)) := z1
            have HZ2 : Hid (numAcc s3 = true) := z2
            clear z1 z2
            go_wp2_with (first | (go_at_call_of 25 (Value.int .u8 101); refine (next_no 101 101 rfl hst3.out he).mono ?_; rintro e w3' ⟨rfl, st4, gr4⟩; have hst3' : Hid (St w3' X a t j3 d) := st4; have hgr3' : Hid (w3.grownBy w3' (some X)) := gr4; clear st4 gr4) | (go_at_call_of 25 (Value.int .u8 69); refine (next_no 69 69 rfl hst3'.out hE).mono ?_; rintro e w4 ⟨rfl, st4, gr4⟩; have hst4 : Hid (St w4 X a t j3 d) := st4; have hgr4 : Hid (w3.grownBy w4 (some X)) := G.trans hgr3'.out gr4; clear st4 gr4))
            go_ret
            exact ⟨ret_bool (by rw [HP3.out, HZ.out]; exact HZ2.out.symm), by rw [HP3.out, HZ.out]; exact hst4.out, G.trans hgr3.out hgr4.out⟩
    · have hkd : decide (0 < dg (t.drop j1)) = false := decide_eq_false hk1
      go_wp2_with (first | (go_at_call_of 25 (Value.int .u8 48); refine (next_no 48 48 rfl hst1.out hz).mono ?_; rintro e w1' ⟨rfl, st4, gr4⟩; have hst1' : Hid (St w1' X a t j1 d) := st4; have hgr1' : Hid (w1.grownBy w1' (some X)) := gr4; clear st4 gr4) | (go_at_call 32; refine (digits_any hst1'.out).mono ?_; rintro e w2 ⟨rfl, st4, gr4⟩; have hst2 : Hid (St w2 X a t (j1 + dg (t.drop j1)) d) := st4; have hgr2 : Hid (w.grownBy w2 (some X)) := G.trans (G.trans hgr1.out hgr1'.out) gr4; clear st4 gr4))
      go_ret
      have hzz : dg (t.drop j1) = 0 := by omega
      have hz3 := hst2.out
      rw [hzz, Nat.add_zero] at hz3
      have hfin := HP1.out.trans (n_none HS1.out hz hzz)
      exact ⟨ret_bool (by rw [hfin]; rcases HS1'.out with h | h <;> rw [h] <;> rfl), by rw [hfin]; exact hz3, hgr2.out⟩
end Go.Proofs.Qxb6628866a
