/- The walk of array, by what Value does further on. -/
import Derived.Test.Qxb6628866aWalkD
import Derived.Test.Qxb6628866aWalkF
import Derived.Defers
namespace Go.Proofs.Qxb6628866a
open Go.RowKit

/-- What Value, at i inside d = d0 + (the open containers) containers, has to do with the machine. -/
def VOk (t : List UInt8) (d0 : Nat) (st : List UInt8) (i d : Nat) (b : Bool) (j d' : Nat) : Prop :=
  (b = true ∧ d' = d ∧ i < j ∧ Reaches t d0 (0, i, st) (2, j, st)) ∨ (b = false ∧ i ≤ j ∧ ∃ e, e ≤ 1 ∧ d' = d + e ∧ Halts t d0 (0, i, st) (false, j, e))

def ValueAt (t : List UInt8) (i : Nat) : Prop := ∀ (w : World) (X : Nat) (a : Option Addr) (d d0 : Nat) (st : List UInt8), St w X a t i d → d = d0 + st.length → d ≤ 10000 →
  Calls Try.prog 8 #[.pointer (some ⟨X, 0, none⟩)] w fun e w' => ∃ b j d', e = .returned (.bool b) ∧ St w' X a t j d' ∧ w.grownBy w' (some X) ∧ VOk t d0 st i d b j d'

/-! The machine's steps at an array. -/
theorem step_val (t : List UInt8) (d0 p : Nat) (st : List UInt8) : step t d0 (0, p, st) = valOut t d0 p st := rfl
theorem step_end (t : List UInt8) (d0 p : Nat) (k : UInt8) (st : List UInt8) : step t d0 (2, p, k :: st) = endOut t p (k :: st) := rfl
theorem step_name (t : List UInt8) (d0 p : Nat) (st : List UInt8) : step t d0 (1, p, st) = nameOut t p st := rfl
theorem val_open {t : List UInt8} {d0 p : Nat} {st : List UInt8} {c : UInt8} (h : t[p]? = some c) (hc : c = 123 ∨ c = 91) : valOut t d0 p st = openOut t d0 p c st := by
  unfold valOut
  rw [h]
  simp only
  rw [if_pos hc]

theorem m_deep {t : List UInt8} {d0 p : Nat} {st : List UInt8} {c : UInt8} (h : t[p]? = some c) (hc : c = 123 ∨ c = 91) (hd : ¬ d0 + st.length + 1 ≤ 10000) : Halts t d0 (0, p, st) (false, p + 1, 1) := by
  refine Halts.now ?_
  rw [step_val, val_open h hc, openOut, if_pos (by omega)]
theorem m_empty {t : List UInt8} {d0 p : Nat} {st : List UInt8} {c : UInt8} (h : t[p]? = some c) (hc : c = 123 ∨ c = 91) (hd : d0 + st.length + 1 ≤ 10000) (he : t[skip t (p + 1)]? = some (closer c)) : Reaches t d0 (0, p, st) (2, skip t (p + 1) + 1, st) := by
  refine Reaches.one ?_
  rw [step_val, val_open h hc, openOut, if_neg (by omega), if_pos he]
theorem m_open {t : List UInt8} {d0 p : Nat} {st : List UInt8} {c : UInt8} (h : t[p]? = some c) (hc : c = 123 ∨ c = 91) (hd : d0 + st.length + 1 ≤ 10000) (he : t[skip t (p + 1)]? ≠ some (closer c)) : Reaches t d0 (0, p, st) (if c = 123 then 1 else 0, skip t (p + 1), c :: st) := by
  refine Reaches.one ?_
  rw [step_val, val_open h hc, openOut, if_neg (by omega), if_neg he]
theorem m_close {t : List UInt8} {d0 p : Nat} {st : List UInt8} {k : UInt8} (h : t[skip t p]? = some (closer k)) : Reaches t d0 (2, p, k :: st) (2, skip t p + 1, st) := by
  refine Reaches.one ?_
  rw [step_end, endOut, if_pos h]
theorem m_comma {t : List UInt8} {d0 p : Nat} {st : List UInt8} {k : UInt8} (h : t[skip t p]? ≠ some (closer k)) (h2 : t[skip t p]? = some 44) : Reaches t d0 (2, p, k :: st) (if k = 123 then 1 else 0, skip t (skip t p + 1), k :: st) := by
  refine Reaches.one ?_
  rw [step_end, endOut, if_neg h, if_pos h2]
theorem m_bad {t : List UInt8} {d0 p : Nat} {st : List UInt8} {k : UInt8} (h : t[skip t p]? ≠ some (closer k)) (h2 : t[skip t p]? ≠ some 44) : Halts t d0 (2, p, k :: st) (false, skip t p, 0) := by
  refine Halts.now ?_
  rw [step_end, endOut, if_neg h, if_neg h2]

theorem enter_ok {w : World} {X : Nat} {a : Option Addr} {t : List UInt8} {i d : Nat} (h : St w X a t i d) (hd : d + 1 ≤ 10000) :
    Calls Try.prog 26 #[.pointer (some ⟨X, 0, none⟩)] w fun e w' => e = .returned (.bool true) ∧ St w' X a t i (d + 1) ∧ w.grownBy w' (some X) := by
  have := enter_any h (by omega)
  rwa [decide_eq_true hd] at this
theorem enter_deep {w : World} {X : Nat} {a : Option Addr} {t : List UInt8} {i d : Nat} (h : St w X a t i d) (hd1 : d ≤ 10000) (hd : ¬ d + 1 ≤ 10000) :
    Calls Try.prog 26 #[.pointer (some ⟨X, 0, none⟩)] w fun e w' => e = .returned (.bool false) ∧ St w' X a t i (d + 1) ∧ w.grownBy w' (some X) := by
  have := enter_any h hd1
  rwa [decide_eq_false hd] at this

set_option maxHeartbeats 800000 in
theorem array_any {t : List UInt8} {i : Nat} (ih : ∀ i2, i < i2 → ValueAt t i2) {w : World} {X : Nat} {a : Option Addr} {d d0 : Nat} {st : List UInt8} (h : St w X a t i d) (hd : d = d0 + st.length) (hd1 : d ≤ 10000) (hc : t[i]? = some 91) :
    Calls Try.prog 16 #[.pointer (some ⟨X, 0, none⟩)] w fun e w' => ∃ b j d', e = .returned (.bool b) ∧ St w' X a t j d' ∧ w.grownBy w' (some X) ∧ VOk t d0 st i d b j d' := by
  have IH : Hid (∀ i2, i < i2 → ValueAt t i2) := ih
  have HS : Hid (St w X a t i d) := h
  have HD : Hid (d = d0 + st.length) := hd
  have HC : Hid (t[i]? = some 91) := hc
  have hlen := h.len
  have hil : i < t.length := (List.getElem?_eq_some_iff.1 hc).1
  clear ih h hc hd
  by_cases hdeep : d + 1 ≤ 10000
  · go_enter_defers Try.func16, Try.ntmps16
    go_wp2_with (first | (go_at_call_of 25 (Value.int .u8 91); refine (next_yes 91 91 rfl HS.out HC.out).mono ?_; rintro e w1 ⟨rfl, st1, gr1⟩; have hst1 : Hid (St w1 X a t (i + 1) d) := st1; have hgr1 : Hid (w.grownBy w1 (some X)) := gr1; clear st1 gr1) | (go_at_call 26; refine (enter_ok hst1.out hdeep).mono ?_; rintro e w2 ⟨rfl, st2, gr2⟩; have hst2 : Hid (St w2 X a t (i + 1) (d + 1)) := st2; have hgr2 : Hid (w.grownBy w2 (some X)) := G.trans hgr1.out gr2; clear st2 gr2) | (go_at_call 29; refine (space_any hst2.out).mono ?_; rintro e w3 ⟨rfl, st3, gr3⟩; have hst3 : Hid (St w3 X a t (skip t (i + 1)) (d + 1)) := st3; have hgr3 : Hid (w.grownBy w3 (some X)) := G.trans hgr2.out gr3; clear st3 gr3))
    have hsk1 := skip_ge t (i + 1)
    have hpos3 := hst3.out.pos
    by_cases hcl : t[skip t (i + 1)]? = some 93
    · have HR : Hid (Reaches t d0 (0, i, st) (2, skip t (i + 1) + 1, st)) := m_empty HC.out (.inr rfl) (by rw [← HD.out]; exact hdeep) hcl
      refine (next_yes 93 93 rfl hst3.out hcl).mono ?_
      rintro e w4 ⟨rfl, st4, gr4⟩
      have hst4 : Hid (St w4 X a t (skip t (i + 1) + 1) (d + 1)) := st4
      have hgr4 : Hid (w.grownBy w4 (some X)) := G.trans hgr3.out gr4
      clear st4 gr4
      go_wp2
      refine leaves_cons (f := 27) (args := #[.pointer (some ⟨X, 0, none⟩)]) (by simp) (by simp [go_sem]) ?_
      refine (leave_d .returning hst4.out).mono ?_
      rintro e u' w5 ⟨rfl, rfl, st5, gr5⟩
      exact ⟨_, results_tmp rfl _ _ _, true, _, _, rfl, st5, G.trans hgr4.out gr5, .inl ⟨rfl, rfl, by omega, HR.out⟩⟩
    · have HR : Hid (Reaches t d0 (0, i, st) (0, skip t (i + 1), 91 :: st)) := m_open HC.out (.inr rfl) (by rw [← HD.out]; exact hdeep) hcl
      refine (next_no 93 93 rfl hst3.out hcl).mono ?_
      rintro e w4 ⟨rfl, st4, gr4⟩
      have hst4 : Hid (St w4 X a t (skip t (i + 1)) (d + 1)) := st4
      have hgr4 : Hid (w.grownBy w4 (some X)) := G.trans hgr3.out gr4
      clear st4 gr4 hst1 hst2 hst3 hgr1 hgr2 hgr3 hcl HS
      go_wp2
      go_loopw [] (fun wr => ∃ j : Nat, i < j ∧ Hid (St wr X a t j (d + 1)) ∧ Hid (w.grownBy wr (some X)) ∧ Hid (Reaches t d0 (0, i, st) (0, j, 91 :: st))) (fun wr => t.length - posOf wr X)
      case atStart => exact ⟨_, by omega, hst4, hgr4, HR⟩
      case round =>
        obtain ⟨j, hij, hst, hgr, hre⟩ := hrel
        go_wp2_with fail
        refine (IH.out j hij wr X a (d + 1) d0 (91 :: st) hst.out (by rw [HD.out]; simp; omega) hdeep).mono ?_
        rintro e w5 ⟨b, j5, d5, rfl, st5, gr5, hv⟩
        have hgr5 : Hid (w.grownBy w5 (some X)) := G.trans hgr.out gr5
        rcases hv with ⟨rfl, rfl, hj5, hr5⟩ | ⟨rfl, hj5, e5, he5, rfl, hh5⟩
        · have hst5 : Hid (St w5 X a t j5 (d + 1)) := st5
          have HR5 : Hid (Reaches t d0 (0, i, st) (2, j5, 91 :: st)) := hre.out.trans hr5
          clear st5 gr5 hr5 hre
          have hsk5 := skip_ge t j5
          have HSK : Hid (skip t j5 ≤ t.length) := skip_le t j5 hst5.out.pos
          go_wp2_with (first | (go_at_call 29; refine (space_any hst5.out).mono ?_; rintro e w6 ⟨rfl, st6, gr6⟩; have hst6 : Hid (St w6 X a t (skip t j5) (d + 1)) := st6; have hgr6 : Hid (w.grownBy w6 (some X)) := G.trans hgr5.out gr6; clear st6 gr6))
          by_cases hcl : t[skip t j5]? = some 93
          · have HR6 : Hid (Reaches t d0 (0, i, st) (2, skip t j5 + 1, st)) := HR5.out.trans (m_close hcl)
            refine (next_yes 93 93 rfl hst6.out hcl).mono ?_
            rintro e w7 ⟨rfl, st7, gr7⟩
            have hst7 : Hid (St w7 X a t (skip t j5 + 1) (d + 1)) := st7
            have hgr7 : Hid (w.grownBy w7 (some X)) := G.trans hgr6.out gr7
            clear st7 gr7
            go_wp2
            refine leaves_cons (f := 27) (args := #[.pointer (some ⟨X, 0, none⟩)]) (by simp) (by simp [go_sem]) ?_
            refine (leave_d .returning hst7.out).mono ?_
            rintro e u' w8 ⟨rfl, rfl, st8, gr8⟩
            exact ⟨_, results_tmp rfl _ _ _, true, _, _, rfl, st8, G.trans hgr7.out gr8, .inl ⟨rfl, rfl, by omega, HR6.out⟩⟩
          · refine (next_no 93 93 rfl hst6.out hcl).mono ?_
            rintro e w7 ⟨rfl, st7, gr7⟩
            have hst7 : Hid (St w7 X a t (skip t j5) (d + 1)) := st7
            have hgr7 : Hid (w.grownBy w7 (some X)) := G.trans hgr6.out gr7
            clear st7 gr7
            go_wp2_with fail
            by_cases hcm : t[skip t j5]? = some 44
            · have HR7 : Hid (Reaches t d0 (0, i, st) (0, skip t (skip t j5 + 1), 91 :: st)) := HR5.out.trans (m_comma hcl hcm)
              refine (next_yes 44 44 rfl hst7.out hcm).mono ?_
              rintro e w8 ⟨rfl, st8, gr8⟩
              have hst8 : Hid (St w8 X a t (skip t j5 + 1) (d + 1)) := st8
              have hgr8 : Hid (w.grownBy w8 (some X)) := G.trans hgr7.out gr8
              clear st8 gr8
              go_wp2_with (first | (go_at_call 29; refine (space_any hst8.out).mono ?_; rintro e w9 ⟨rfl, st9, gr9⟩; have hst9 : Hid (St w9 X a t (skip t (skip t j5 + 1)) (d + 1)) := st9; have hgr9 : Hid (w.grownBy w9 (some X)) := G.trans hgr8.out gr9; clear st9 gr9))
              have hsk9 := skip_ge t (skip t j5 + 1)
              go_roundw
              case rel => exact ⟨_, by omega, hst9, hgr9, HR7⟩
              case measure => exact meas hst.out hst9.out (by omega)
            · have HH7 : Hid (Halts t d0 (0, i, st) (false, skip t j5, 0)) := HR5.out.halts (m_bad hcl hcm)
              refine (next_no 44 44 rfl hst7.out hcm).mono ?_
              rintro e w8 ⟨rfl, st8, gr8⟩
              have hst8 : Hid (St w8 X a t (skip t j5) (d + 1)) := st8
              have hgr8 : Hid (w.grownBy w8 (some X)) := G.trans hgr7.out gr8
              clear st8 gr8
              go_wp2
              refine leaves_cons (f := 27) (args := #[.pointer (some ⟨X, 0, none⟩)]) (by simp) (by simp [go_sem]) ?_
              refine (leave_d .returning hst8.out).mono ?_
              rintro e u' w9 ⟨rfl, rfl, st9, gr9⟩
              exact ⟨_, results_tmp rfl _ _ _, false, _, _, rfl, st9, G.trans hgr8.out gr9, .inr ⟨rfl, by omega, 0, by omega, rfl, HH7.out⟩⟩
        · have hst5 : Hid (St w5 X a t j5 (d + 1 + e5)) := st5
          clear st5 gr5
          go_wp2
          refine leaves_cons (f := 27) (args := #[.pointer (some ⟨X, 0, none⟩)]) (by simp) (by simp [go_sem]) ?_
          have hst6 : St w5 X a t j5 (d + e5 + 1) := by rw [Nat.add_right_comm]; exact hst5.out
          refine (leave_d .returning hst6).mono ?_
          rintro e u' w6 ⟨rfl, rfl, st6, gr6⟩
          exact ⟨_, results_tmp rfl _ _ _, false, _, _, rfl, st6, G.trans hgr5.out gr6, .inr ⟨rfl, by omega, e5, he5, rfl, hre.out.halts hh5⟩⟩
  · have HH : Hid (Halts t d0 (0, i, st) (false, i + 1, 1)) := m_deep HC.out (.inr rfl) (by rw [← HD.out]; exact hdeep)
    go_enter_defers Try.func16, Try.ntmps16
    go_wp2_with (first | (go_at_call_of 25 (Value.int .u8 91); refine (next_yes 91 91 rfl HS.out HC.out).mono ?_; rintro e w1 ⟨rfl, st1, gr1⟩; have hst1 : Hid (St w1 X a t (i + 1) d) := st1; have hgr1 : Hid (w.grownBy w1 (some X)) := gr1; clear st1 gr1) | (go_at_call 26; refine (enter_deep hst1.out hd1 hdeep).mono ?_; rintro e w2 ⟨rfl, st2, gr2⟩; have hst2 : Hid (St w2 X a t (i + 1) (d + 1)) := st2; have hgr2 : Hid (w.grownBy w2 (some X)) := G.trans hgr1.out gr2; clear st2 gr2))
    exact ⟨_, results_tmp rfl _ _ _, false, _, _, rfl, hst2.out, hgr2.out, .inr ⟨rfl, by omega, 1, by omega, rfl, HH.out⟩⟩
end Go.Proofs.Qxb6628866a
