/- The walk of Value: at each place it does what the machine does. -/
import Derived.Test.Qxb6628866aWalkH
namespace Go.Proofs.Qxb6628866a
open Go.RowKit

theorem numRun_stay : ∀ (l : List UInt8) (st : Nat), (numRun st l).1 = 0 → (numRun st l).2 = st
  | [], st, _ => rfl
  | c :: l, st, h => by
    unfold numRun at h ⊢
    cases hs : numStep st c with
    | none => rfl
    | some s => rw [hs] at h; simp at h

theorem v_string {t : List UInt8} {d0 i d : Nat} {st : List UInt8} (h : t[i]? = some 34) : VOk t d0 st i d (SL t (i + 1)).isSome ((SL t (i + 1)).getD (i + 1)) d := by
  have hv : step t d0 (0, i, st) = strOut t i st := by
    rw [step_val]; unfold valOut; rw [h]; simp only; rw [if_neg (by decide)]; exact if_pos trivial
  unfold strOut at hv
  cases hs : strLen (t.drop (i + 1)) with
  | none =>
    rw [hs] at hv
    have e : SL t (i + 1) = none := by unfold SL; rw [hs]; rfl
    rw [e]
    exact .inr ⟨rfl, by simp, 0, by omega, rfl, Halts.now hv⟩
  | some k =>
    rw [hs] at hv
    have e : SL t (i + 1) = some (k + (i + 1)) := by unfold SL; rw [hs]; rfl
    rw [e]
    exact .inl ⟨rfl, rfl, by simp; omega, Reaches.one (by rw [Option.getD_some, Nat.add_comm k]; exact hv)⟩

theorem v_word {t l : List UInt8} {d0 i d : Nat} {st : List UInt8} (hl : 0 < l.length) (hv : step t d0 (0, i, st) = litOut l t i st) : VOk t d0 st i d (l.isPrefixOf (t.drop i)) (if l.isPrefixOf (t.drop i) = true then i + l.length else i) d := by
  unfold litOut at hv
  cases hp : l.isPrefixOf (t.drop i) with
  | true =>
    rw [hp, if_pos rfl] at hv
    rw [if_pos rfl]
    exact .inl ⟨rfl, rfl, by omega, Reaches.one hv⟩
  | false =>
    rw [hp, if_neg (by simp)] at hv
    rw [if_neg (by simp)]
    exact .inr ⟨rfl, by omega, 0, by omega, rfl, Halts.now hv⟩

theorem v_number {t : List UInt8} {d0 i d : Nat} {st : List UInt8} (hv : step t d0 (0, i, st) = numOut t i st) : VOk t d0 st i d (numAcc (NR t i 0).2) (NR t i 0).1 d := by
  unfold numOut at hv
  unfold NR
  simp only
  cases hp : numAcc (numRun 0 (t.drop i)).2 with
  | true =>
    rw [hp, if_pos rfl] at hv
    refine .inl ⟨rfl, rfl, ?_, Reaches.one hv⟩
    cases Nat.eq_zero_or_pos (numRun 0 (t.drop i)).1 with
    | inl h => rw [numRun_stay _ _ h] at hp; exact absurd hp (by decide)
    | inr h => omega
  | false =>
    rw [hp, if_neg (by simp)] at hv
    exact .inr ⟨rfl, by omega, 0, by omega, rfl, Halts.now hv⟩
theorem v_end {t : List UInt8} {d0 i : Nat} {st : List UInt8} (h : ¬ i < t.length) : step t d0 (0, i, st) = numOut t i st := by
  rw [step_val]; unfold valOut; rw [at_ge h]; simp only
  unfold numOut
  rw [List.drop_eq_nil_of_le (by omega)]
  rfl
theorem v_lit {t : List UInt8} {d0 i : Nat} {st : List UInt8} {c : UInt8} (h : t[i]? = some c) (h1 : ¬ (c = 123 ∨ c = 91)) (h2 : c ≠ 34) :
    step t d0 (0, i, st) = if c = 116 then litOut wTrue t i st else if c = 102 then litOut wFalse t i st else if c = 110 then litOut wNull t i st else numOut t i st := by
  rw [step_val]; unfold valOut; rw [h]; simp only; rw [if_neg h1, if_neg h2]

set_option maxHeartbeats 800000 in
theorem value_step {t : List UInt8} {i : Nat} (ih : ∀ i2, i < i2 → ValueAt t i2) : ValueAt t i := by
  intro w X a d d0 st h hd hd1
  have IH : Hid (∀ i2, i < i2 → ValueAt t i2) := ih
  have HD : Hid (d = d0 + st.length) := hd
  have HS : Hid (St w X a t i d) := h
  clear ih hd
  by_cases hi : i < t.length
  · have hp := peek_some h hi
    have hcq : Hid (t[i]? = some t[i]) := at_lt hi
    generalize t[i] = c at hp hcq
    have HP : Hid (Calls Try.prog 14 #[.pointer (some ⟨X, 0, none⟩)] w fun e w' => e = .returned (.int .u8 (c.toNat : Int)) ∧ ∃ n, w' = w.drewN n) := hp
    clear hp h
    by_cases h0 : c = 123
    · subst h0
      go_enter Try.func8, Try.ntmps8
      go_wp2_with (first | (go_at_call 14; refine HP.out.mono ?_; rintro e w1 ⟨rfl, n, hw1⟩; have hst1 : Hid (St w1 X a t i d) := (by rw [hw1]; exact HS.out.drewN n : St w1 X a t i d); have hgr1 : Hid (w.grownBy w1 (some X)) := (by rw [hw1]; exact G.drewN (G.refl _ _) n : w.grownBy w1 (some X)); clear hw1))
      refine (object_any IH.out hst1.out HD.out hd1 hcq.out).mono ?_
      rintro e w2 ⟨b, j, d', rfl, st2, gr2, hv⟩
      go_wp2
      go_ret
      exact ⟨b, j, d', rfl, st2, G.trans hgr1.out gr2, hv⟩
    by_cases h1 : c = 91
    · subst h1
      go_enter Try.func8, Try.ntmps8
      go_wp2_with (first | (go_at_call 14; refine HP.out.mono ?_; rintro e w1 ⟨rfl, n, hw1⟩; have hst1 : Hid (St w1 X a t i d) := (by rw [hw1]; exact HS.out.drewN n : St w1 X a t i d); have hgr1 : Hid (w.grownBy w1 (some X)) := (by rw [hw1]; exact G.drewN (G.refl _ _) n : w.grownBy w1 (some X)); clear hw1))
      refine (array_any IH.out hst1.out HD.out hd1 hcq.out).mono ?_
      rintro e w2 ⟨b, j, d', rfl, st2, gr2, hv⟩
      go_wp2
      go_ret
      exact ⟨b, j, d', rfl, st2, G.trans hgr1.out gr2, hv⟩
    by_cases h2 : c = 34
    · subst h2
      go_enter Try.func8, Try.ntmps8
      go_wp2_with (first | (go_at_call 14; refine HP.out.mono ?_; rintro e w1 ⟨rfl, n, hw1⟩; have hst1 : Hid (St w1 X a t i d) := (by rw [hw1]; exact HS.out.drewN n : St w1 X a t i d); have hgr1 : Hid (w.grownBy w1 (some X)) := (by rw [hw1]; exact G.drewN (G.refl _ _) n : w.grownBy w1 (some X)); clear hw1))
      refine (string_yes hst1.out hcq.out).mono ?_
      rintro e w2 ⟨rfl, st2, gr2⟩
      go_wp2
      go_ret
      exact ⟨_, _, _, rfl, st2, G.trans hgr1.out gr2, v_string hcq.out⟩
    by_cases h3 : c = 116
    · subst h3
      go_enter Try.func8, Try.ntmps8
      go_wp2_with (first | (go_at_call 14; refine HP.out.mono ?_; rintro e w1 ⟨rfl, n, hw1⟩; have hst1 : Hid (St w1 X a t i d) := (by rw [hw1]; exact HS.out.drewN n : St w1 X a t i d); have hgr1 : Hid (w.grownBy w1 (some X)) := (by rw [hw1]; exact G.drewN (G.refl _ _) n : w.grownBy w1 (some X)); clear hw1))
      refine (word_any wTrue hst1.out hi (by decide)).mono ?_
      rintro e w2 ⟨rfl, st2, gr2⟩
      go_wp2
      go_ret
      exact ⟨_, _, _, rfl, st2, G.trans hgr1.out gr2, v_word (by decide) ((v_lit hcq.out (by decide) (by decide)).trans (by rfl))⟩
    by_cases h4 : c = 102
    · subst h4
      go_enter Try.func8, Try.ntmps8
      go_wp2_with (first | (go_at_call 14; refine HP.out.mono ?_; rintro e w1 ⟨rfl, n, hw1⟩; have hst1 : Hid (St w1 X a t i d) := (by rw [hw1]; exact HS.out.drewN n : St w1 X a t i d); have hgr1 : Hid (w.grownBy w1 (some X)) := (by rw [hw1]; exact G.drewN (G.refl _ _) n : w.grownBy w1 (some X)); clear hw1))
      refine (word_any wFalse hst1.out hi (by decide)).mono ?_
      rintro e w2 ⟨rfl, st2, gr2⟩
      go_wp2
      go_ret
      exact ⟨_, _, _, rfl, st2, G.trans hgr1.out gr2, v_word (by decide) ((v_lit hcq.out (by decide) (by decide)).trans (by rfl))⟩
    by_cases h5 : c = 110
    · subst h5
      go_enter Try.func8, Try.ntmps8
      go_wp2_with (first | (go_at_call 14; refine HP.out.mono ?_; rintro e w1 ⟨rfl, n, hw1⟩; have hst1 : Hid (St w1 X a t i d) := (by rw [hw1]; exact HS.out.drewN n : St w1 X a t i d); have hgr1 : Hid (w.grownBy w1 (some X)) := (by rw [hw1]; exact G.drewN (G.refl _ _) n : w.grownBy w1 (some X)); clear hw1))
      refine (word_any wNull hst1.out hi (by decide)).mono ?_
      rintro e w2 ⟨rfl, st2, gr2⟩
      go_wp2
      go_ret
      exact ⟨_, _, _, rfl, st2, G.trans hgr1.out gr2, v_word (by decide) ((v_lit hcq.out (by decide) (by decide)).trans (by rfl))⟩
    have g0 := ne_beq 123 h0
    have g1 := ne_beq 91 h1
    have g2 := ne_beq 34 h2
    have g3 := ne_beq 116 h3
    have g4 := ne_beq 102 h4
    have g5 := ne_beq 110 h5
    have hv := v_number (d := d) ((v_lit (d0 := d0) (st := st) hcq.out (by rintro (h | h) <;> contradiction) h2).trans (by rw [if_neg h3, if_neg h4, if_neg h5]))
    have HVH : Hid (VOk t d0 st i d (numAcc (NR t i 0).2) (NR t i 0).1 d) := hv
    clear hv h0 h1 h2 h3 h4 h5
    go_enter Try.func8, Try.ntmps8
    go_wp2_with (first | (go_at_call 14; refine HP.out.mono ?_; rintro e w1 ⟨rfl, n, hw1⟩; have hst1 : Hid (St w1 X a t i d) := (by rw [hw1]; exact HS.out.drewN n : St w1 X a t i d); have hgr1 : Hid (w.grownBy w1 (some X)) := (by rw [hw1]; exact G.drewN (G.refl _ _) n : w.grownBy w1 (some X)); clear hw1))
    refine (number_any hst1.out).mono ?_
    rintro e w2 ⟨rfl, st2, gr2⟩
    go_wp2
    go_ret
    exact ⟨_, _, _, rfl, st2, G.trans hgr1.out gr2, HVH.out⟩
  · have HP : Hid (Calls Try.prog 14 #[.pointer (some ⟨X, 0, none⟩)] w fun e w' => e = .returned (.int .u8 0) ∧ ∃ n, w' = w.drewN n) := peek_none h hi
    have HVH : Hid (VOk t d0 st i d (numAcc (NR t i 0).2) (NR t i 0).1 d) := v_number (v_end hi)
    clear h
    go_enter Try.func8, Try.ntmps8
    go_wp2_with (first | (go_at_call 14; refine HP.out.mono ?_; rintro e w1 ⟨rfl, n, hw1⟩; have hst1 : Hid (St w1 X a t i d) := (by rw [hw1]; exact HS.out.drewN n : St w1 X a t i d); have hgr1 : Hid (w.grownBy w1 (some X)) := (by rw [hw1]; exact G.drewN (G.refl _ _) n : w.grownBy w1 (some X)); clear hw1))
    refine (number_any hst1.out).mono ?_
    rintro e w2 ⟨rfl, st2, gr2⟩
    go_wp2
    go_ret
    exact ⟨_, _, _, rfl, st2, G.trans hgr1.out gr2, HVH.out⟩

/-- Value at every place. -/
theorem value_all (t : List UInt8) : ∀ (n i : Nat), t.length + 1 - i ≤ n → i ≤ t.length → ValueAt t i
  | 0, i, h, hi => by omega
  | n + 1, i, h, hi => value_step fun i2 h2 => by
    by_cases hl : i2 ≤ t.length
    · exact value_all t n i2 (by omega) hl
    · intro w X a d d0 st hs
      exact absurd hs.pos hl
end Go.Proofs.Qxb6628866a
