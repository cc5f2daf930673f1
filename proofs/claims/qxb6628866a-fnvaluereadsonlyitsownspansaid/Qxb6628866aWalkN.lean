/- The walk of zzModel. -/
import Derived.Test.Qxb6628866aWalkI
import Derived.Test.Qxb6628866aWalkM
import Derived.OwnWalk
import Derived.WalkSmall
namespace Go.Proofs.Qxb6628866a
open Go.RowKit

/-- The stack's cells: the innermost container last. -/
def stk (st : List UInt8) : List Value := st.reverse.map fun c => .int .u8 (c.toNat : Int)
theorem stk_cons (c : UInt8) (st : List UInt8) : stk (c :: st) = stk st ++ [.int .u8 (c.toNat : Int)] := by simp [stk]
theorem stk_len (st : List UInt8) : (stk st).length = st.length * 1 := by simp [stk]

theorem infoU8 : (Try.prog.info? 5).map (fun i => (i.zero, i.size, i.bytes)) = some (some (.int .u8 0), 1, 1) := by kernel_rfl

/-- The model's loop: the stack's row lies at g, and the machine has come here. -/
structure MS (w wr : World) (t : List UInt8) (d0 i g cap m p : Nat) (st : List UInt8) : Prop where
  own : wr.ownsRow w.heap.size 5 1 (.slice (some ⟨g, 0, none⟩) st.length cap) st.length (stk st)
  bel : Below w.heap.size w wr
  re : Reaches t d0 (0, i, []) (m, p, st)
theorem MS.to {w wr : World} {t : List UInt8} {d0 i g cap m p m' p' : Nat} {st : List UInt8} (h : MS w wr t d0 i g cap m p st) (r : Reaches t d0 (m, p, st) (m', p', st)) : MS w wr t d0 i g cap m' p' st :=
  ⟨h.own, h.bel, h.re.trans r⟩
theorem MS.drewN {w wr : World} {t : List UInt8} {d0 i g cap m p : Nat} {st : List UInt8} (h : MS w wr t d0 i g cap m p st) (n : Nat) : MS w (wr.drewN n) t d0 i g cap m p st :=
  ⟨h.own, below_drewN h.bel n, h.re⟩
theorem MS.tm {w wr : World} {a : Option Addr} {t : List UInt8} {d0 i g cap m p : Nat} {st : List UInt8} (h : MS w wr t d0 i g cap m p st) (k : Tm w a t) : Tm wr a t := k.kept h.bel
theorem MS.pop {w wr : World} {t : List UInt8} {d0 i g cap m p m' p' : Nat} {c : UInt8} {st : List UInt8} (h : MS w wr t d0 i g cap m p (c :: st)) (r : Reaches t d0 (0, i, []) (m', p', st)) : MS w wr t d0 i g cap m' p' st := by
  have ho := h.own
  rw [stk_cons] at ho
  exact ⟨ownsRow_pop (stk_len st) ho, h.bel, r⟩
theorem MS.top {w wr : World} {t : List UInt8} {d0 i g cap m p : Nat} {c : UInt8} {st : List UInt8} (h : MS w wr t d0 i g cap m p (c :: st)) : wr.cell? ⟨g, st.length, none⟩ = some (.int .u8 (c.toNat : Int)) := by
  rw [h.own.cellAt st.length (by simp), stk_cons, List.getElem?_append_right (by rw [stk_len]; omega), stk_len]
  simp
/-- What the model answers. -/
def MPost (w : World) (t : List UInt8) (d0 i : Nat) (e : Ending) (w' : World) : Prop :=
  ∃ ok p e', e = .returned (.tuple #[.bool ok, .int .i64 ((p : Nat) : Int), .int .i64 ((d0 + e' : Nat) : Int)]) ∧ Halts t d0 (0, i, []) (ok, p, e') ∧ Below w.heap.size w w'
theorem MPost.no {w w' : World} {t : List UInt8} {d0 i p : Nat} {e : Ending} (he : e = .returned (.tuple #[.bool false, .int .i64 ((p : Nat) : Int), .int .i64 (d0 : Int)])) (hh : Halts t d0 (0, i, []) (false, p, 0)) (hb : Below w.heap.size w w') : MPost w t d0 i e w' :=
  ⟨false, p, 0, he, hh, hb⟩
theorem MPost.yes {w w' : World} {t : List UInt8} {d0 i p : Nat} {e : Ending} (he : e = .returned (.tuple #[.bool true, .int .i64 ((p : Nat) : Int), .int .i64 (d0 : Int)])) (hh : Halts t d0 (0, i, []) (true, p, 0)) (hb : Below w.heap.size w w') : MPost w t d0 i e w' :=
  ⟨true, p, 0, he, hh, hb⟩
theorem MPost.deep {w w' : World} {t : List UInt8} {d0 i p : Nat} {e : Ending} (he : e = .returned (.tuple #[.bool false, .int .i64 ((p : Nat) : Int), .int .i64 ((d0 : Int) + 1)])) (hh : Halts t d0 (0, i, []) (false, p, 1)) (hb : Below w.heap.size w w') : MPost w t d0 i e w' :=
  ⟨false, p, 1, he, hh, hb⟩
theorem owned_form {w : World} {base : Nat} {v : Value} {n : Nat} {xs : List Value} (h : w.ownsRow base 5 1 v (n + 1) xs) : ∃ g cap, v = .slice (some ⟨g, 0, none⟩) (n + 1) cap ∧ base ≤ g := by
  obtain ⟨_, h2⟩ := h
  rcases h2 with ⟨_, h0⟩ | ⟨g, cap, cur, hv, hg, _⟩
  · omega
  · exact ⟨g, cap, hv, hg⟩
theorem owned_form2 {w : World} {base : Nat} {v : Value} {n : Nat} {xs : List Value} (h : w.ownsRow base 5 1 v (n + 1) xs) : ∃ g cap, v = .slice (some ⟨g, 0, none⟩) (n + 1) cap ∧ base ≤ g ∧ n + 1 ≤ cap := by
  obtain ⟨_, h2⟩ := h
  rcases h2 with ⟨_, h0⟩ | ⟨g, cap, cur, hv, hg, _, hc, _⟩
  · omega
  · exact ⟨g, cap, hv, hg, hc⟩
theorem u8_ne {c k : UInt8} (h : c ≠ k) : (((c.toNat : Int)) == ((k.toNat : Nat) : Int)) = false := by
  rw [beq_eq_false_iff_ne]
  intro e
  exact h (UInt8.toNat_inj.1 (by omega))
theorem u8_neb {c k : UInt8} (h : c ≠ k) : (((c.toNat : Int)) != ((k.toNat : Nat) : Int)) = true := by
  rw [bne, u8_ne h]; rfl

theorem lit_bd {t l : List UInt8} {p : Nat} (hp : p ≤ t.length) : (if l.isPrefixOf (t.drop p) = true then p + l.length else p) ≤ t.length := by
  split
  · rename_i h
    have := (List.isPrefixOf_iff_prefix.1 h).length_le
    rw [List.length_drop] at this
    omega
  · exact hp

set_option maxRecDepth 100000 in
set_option maxHeartbeats 40000000 in
theorem zz_model {w : World} {a : Option Addr} {t : List UInt8} {i d0 : Nat} (h : Tm w a t) (hl : t.length ≤ 1048576) (hi : i ≤ t.length) (hd : d0 ≤ 10000) :
    Calls Try.prog 11 #[.slice a t.length t.length, .int .i64 (i : Int), .int .i64 (d0 : Int)] w (MPost w t d0 i) := by
  have HT : Hid (Tm w a t) := h
  clear h
  obtain ⟨inf, hi5, hz0, hz1, hz2⟩ := info_parts infoU8
  go_enter Try.func11, Try.ntmps11
  go_wp2_with (first | (at_make; refine wpList_make_own _ rfl _ _ 22 rfl w.heap.size 5 inf (.int .u8 0) 1 Try.underlying22 hi5 hz0 hz1 _ _ _ 8 rfl rfl rfl (by rw [hz2]; decide) (by decide) (Nat.le_refl _) ?_) | go_in)
  intro w1 hown hgrow
  have HM1 : Hid (MS w w1 t d0 i w.heap.size 8 0 i []) := ⟨hown, (Below.refl _ _).grown hgrow (Nat.le_refl _) (fun k hk => by cases hk), Reaches.refl _ _ _⟩
  clear hown hgrow
  go_wp2
  go_loopw [9, 10, 11] (fun vs vp vm wr => ∃ (m p : Nat) (st : List UInt8) (g cap : Nat), m ≤ 2 ∧ p ≤ t.length ∧ st.length + d0 ≤ 10000 ∧ vs = .slice (some ⟨g, 0, none⟩) st.length cap ∧ vp = .int .i64 p ∧ vm = .int .i64 m ∧ Hid (MS w wr t d0 i g cap m p st)) (fun _ vp _ _ => t.length - (intOf vp).toNat)
  case atStart => exact ⟨0, i, [], w.heap.size, 8, by omega, hi, by simpa using hd, rfl, rfl, rfl, HM1⟩
  case round =>
    clear HM1
    obtain ⟨m, p, st, g, cap, hm, hp, hst, rfl, rfl, rfl, HM⟩ := hrel
    have HTr : Hid (Tm wr a t) := HM.out.tm HT.out
    have hm2 : m = 0 ∨ m = 1 ∨ m = 2 := by omega
    clear hm
    rcases hm2 with rfl | rfl | rfl
    · by_cases hpl : p < t.length
      · obtain ⟨T, rfl, _, hcell⟩ := HTr.out.at hpl
        have HQ : Hid (t[p]? = some t[p]) := at_lt hpl
        generalize t[p] = c at *
        by_cases h0 : c = 123
        · subst h0
          as_aux_lemma =>
            have HOwn : Hid (wr.ownsRow w.heap.size 5 1 (.slice (some ⟨g, 0, none⟩) st.length cap) st.length (stk st)) := HM.out.own
            have hbs := HM.out.bel.size
            have HGl : Hid (w.heap.size ≤ g) := (HM.out.own.lt g rfl).1
            by_cases hdp : 10000 < st.length + 1 + d0
            · have HH : Hid (Halts t d0 (0, i, []) (false, p + 1, 1)) := HM.out.re.halts (m_deep HQ.out (by decide) (by omega))
              go_wp2_with (first | (at_builtin; refine wpList_append_own _ rfl _ _ 22 rfl w.heap.size 5 inf (.int .u8 0) 1 1 Try.underlying22 hi5 hz0 hz1 hz2 rfl (by decide) _ _ _ rfl (HOwn.out.alloc _) ⟨wr.heap.size, 0, none⟩ 1 1 [.int .u8 123] rfl rfl (cell_one_new _ _ _) (fun x hx => by simp at hx; subst hx; rfl) (by unfold maxLen; omega) (by omega) (by simp; omega) ?_; intro v2 w2 hown2 hgrow2 hnil2; obtain ⟨g2, cap2, hv2, hg2, hcap2⟩ := owned_form2 hown2; subst hv2; have HO2 : Hid (w2.ownsRow w.heap.size 5 1 (.slice (some ⟨g2, 0, none⟩) (st.length + 1) cap2) (st.length + 1) (stk (123 :: st))) := (by rw [stk_cons]; exact hown2 : w2.ownsRow w.heap.size 5 1 (.slice (some ⟨g2, 0, none⟩) (st.length + 1) cap2) (st.length + 1) (stk (123 :: st))); have HB2 : Hid (Below w.heap.size w w2) := (HM.out.bel.alloc hbs _).grown hgrow2 (by simp; omega) (fun k hk => by cases hk; exact HGl.out); clear hown2 hgrow2 hnil2))
              go_wp2
              go_ret3
              exact MPost.deep rfl HH.out HB2.out
            · have hbd := skip_le t (p + 1) hpl
              have hge := skip_ge t (p + 1)
              have HCl : Hid (∀ w, Calls Try.prog 21 #[.int .u8 123] w fun e w' => e = .returned (.int .u8 125) ∧ w' = w) := fun w => (zz_closer (w := w) 123).mono fun _ _ ⟨h1, h2⟩ => ⟨h1, h2.symm⟩
              go_wp2_with (first | (at_builtin; refine wpList_append_own _ rfl _ _ 22 rfl w.heap.size 5 inf (.int .u8 0) 1 1 Try.underlying22 hi5 hz0 hz1 hz2 rfl (by decide) _ _ _ rfl (HOwn.out.alloc _) ⟨wr.heap.size, 0, none⟩ 1 1 [.int .u8 123] rfl rfl (cell_one_new _ _ _) (fun x hx => by simp at hx; subst hx; rfl) (by unfold maxLen; omega) (by omega) (by simp; omega) ?_; intro v2 w2 hown2 hgrow2 hnil2; obtain ⟨g2, cap2, hv2, hg2, hcap2⟩ := owned_form2 hown2; subst hv2; have HO2 : Hid (w2.ownsRow w.heap.size 5 1 (.slice (some ⟨g2, 0, none⟩) (st.length + 1) cap2) (st.length + 1) (stk (123 :: st))) := (by rw [stk_cons]; exact hown2 : w2.ownsRow w.heap.size 5 1 (.slice (some ⟨g2, 0, none⟩) (st.length + 1) cap2) (st.length + 1) (stk (123 :: st))); have HB2 : Hid (Below w.heap.size w w2) := (HM.out.bel.alloc hbs _).grown hgrow2 (by simp; omega) (fun k hk => by cases hk; exact HGl.out); clear hown2 hgrow2 hnil2; have HS2 : Hid (Calls Try.prog 20 #[.slice (some ⟨T, 0, none⟩) t.length t.length, .int .i64 ((p : Int) + 1)] w2 fun e w' => e = .returned (.int .i64 (skip t (p + 1) : Int)) ∧ w2 = w') := zz_skip (i := p + 1) (HT.out.kept HB2.out) hl hpl))
              refine HS2.out.mono ?_
              rintro e w' ⟨rfl, rfl⟩
              by_cases hcl : t[skip t (p + 1)]? = some 125
              · have HR : Hid (Reaches t d0 (0, i, []) (2, skip t (p + 1) + 1, st)) := HM.out.re.trans (m_empty HQ.out (by decide) (by omega) hcl)
                obtain ⟨hlt2, hget⟩ := List.getElem?_eq_some_iff.1 hcl
                have hcell2 : w2.cell? ⟨T, skip t (p + 1), none⟩ = some (.int .u8 125) := by
                  have := (HT.out.kept HB2.out).cellAt hlt2
                  rwa [hget] at this
                clear hcl hget HS2
                generalize skip t (p + 1) = q at *
                go_wp2
                go_quiet ((go_at_call 21; exact Calls.quiet_of_same (HCl.out _)))
                go_wp2
                go_roundw
                case rel => exact ⟨2, q + 1, st, g2, cap2, by omega, by omega, hst, rfl, by go_num, rfl, ⟨ownsRow_pop (stk_len st) (by have := HO2.out; rwa [stk_cons] at this), below_drewN HB2.out _, HR.out⟩⟩
                case measure => simp [intOf]; omega
              · have HR : Hid (Reaches t d0 (0, i, []) (1, skip t (p + 1), 123 :: st)) := HM.out.re.trans (m_open HQ.out (by decide) (by omega) hcl)
                by_cases hlt2 : skip t (p + 1) < t.length
                · have hne : t[skip t (p + 1)] ≠ 125 := fun e => hcl (by rw [at_lt hlt2, e])
                  have hcell2 := (HT.out.kept HB2.out).cellAt hlt2
                  clear hcl HS2
                  generalize t[skip t (p + 1)] = y at *
                  have e1 : (((y.toNat : Int)) == 125) = false := ne_beq 125 hne
                  clear hne
                  generalize skip t (p + 1) = q at *
                  go_wp2
                  go_quiet ((go_at_call 21; exact Calls.quiet_of_same (HCl.out _)))
                  go_wp2
                  go_roundw
                  case rel => exact ⟨1, q, 123 :: st, g2, cap2, by omega, by omega, by simp; omega, rfl, rfl, rfl, ⟨HO2.out, below_drewN HB2.out _, HR.out⟩⟩
                  case measure => simp [intOf]; omega
                · clear hcl HS2
                  generalize skip t (p + 1) = q at *
                  have e1 : decide ((q : Int) < (t.length : Int)) = false := by simp; omega
                  go_wp2
                  go_quiet (fail)
                  go_wp2
                  go_roundw
                  case rel => exact ⟨1, q, 123 :: st, g2, cap2, by omega, by omega, by simp; omega, rfl, rfl, rfl, ⟨HO2.out, below_drewN HB2.out _, HR.out⟩⟩
                  case measure => simp [intOf]; omega
        by_cases h1 : c = 91
        · subst h1
          as_aux_lemma =>
            have HOwn : Hid (wr.ownsRow w.heap.size 5 1 (.slice (some ⟨g, 0, none⟩) st.length cap) st.length (stk st)) := HM.out.own
            have hbs := HM.out.bel.size
            have HGl : Hid (w.heap.size ≤ g) := (HM.out.own.lt g rfl).1
            by_cases hdp : 10000 < st.length + 1 + d0
            · have HH : Hid (Halts t d0 (0, i, []) (false, p + 1, 1)) := HM.out.re.halts (m_deep HQ.out (by decide) (by omega))
              go_wp2_with (first | (at_builtin; refine wpList_append_own _ rfl _ _ 22 rfl w.heap.size 5 inf (.int .u8 0) 1 1 Try.underlying22 hi5 hz0 hz1 hz2 rfl (by decide) _ _ _ rfl (HOwn.out.alloc _) ⟨wr.heap.size, 0, none⟩ 1 1 [.int .u8 91] rfl rfl (cell_one_new _ _ _) (fun x hx => by simp at hx; subst hx; rfl) (by unfold maxLen; omega) (by omega) (by simp; omega) ?_; intro v2 w2 hown2 hgrow2 hnil2; obtain ⟨g2, cap2, hv2, hg2, hcap2⟩ := owned_form2 hown2; subst hv2; have HO2 : Hid (w2.ownsRow w.heap.size 5 1 (.slice (some ⟨g2, 0, none⟩) (st.length + 1) cap2) (st.length + 1) (stk (91 :: st))) := (by rw [stk_cons]; exact hown2 : w2.ownsRow w.heap.size 5 1 (.slice (some ⟨g2, 0, none⟩) (st.length + 1) cap2) (st.length + 1) (stk (91 :: st))); have HB2 : Hid (Below w.heap.size w w2) := (HM.out.bel.alloc hbs _).grown hgrow2 (by simp; omega) (fun k hk => by cases hk; exact HGl.out); clear hown2 hgrow2 hnil2))
              go_wp2
              go_ret3
              exact MPost.deep rfl HH.out HB2.out
            · have hbd := skip_le t (p + 1) hpl
              have hge := skip_ge t (p + 1)
              have HCl : Hid (∀ w, Calls Try.prog 21 #[.int .u8 91] w fun e w' => e = .returned (.int .u8 93) ∧ w' = w) := fun w => (zz_closer (w := w) 91).mono fun _ _ ⟨h1, h2⟩ => ⟨h1, h2.symm⟩
              go_wp2_with (first | (at_builtin; refine wpList_append_own _ rfl _ _ 22 rfl w.heap.size 5 inf (.int .u8 0) 1 1 Try.underlying22 hi5 hz0 hz1 hz2 rfl (by decide) _ _ _ rfl (HOwn.out.alloc _) ⟨wr.heap.size, 0, none⟩ 1 1 [.int .u8 91] rfl rfl (cell_one_new _ _ _) (fun x hx => by simp at hx; subst hx; rfl) (by unfold maxLen; omega) (by omega) (by simp; omega) ?_; intro v2 w2 hown2 hgrow2 hnil2; obtain ⟨g2, cap2, hv2, hg2, hcap2⟩ := owned_form2 hown2; subst hv2; have HO2 : Hid (w2.ownsRow w.heap.size 5 1 (.slice (some ⟨g2, 0, none⟩) (st.length + 1) cap2) (st.length + 1) (stk (91 :: st))) := (by rw [stk_cons]; exact hown2 : w2.ownsRow w.heap.size 5 1 (.slice (some ⟨g2, 0, none⟩) (st.length + 1) cap2) (st.length + 1) (stk (91 :: st))); have HB2 : Hid (Below w.heap.size w w2) := (HM.out.bel.alloc hbs _).grown hgrow2 (by simp; omega) (fun k hk => by cases hk; exact HGl.out); clear hown2 hgrow2 hnil2; have HS2 : Hid (Calls Try.prog 20 #[.slice (some ⟨T, 0, none⟩) t.length t.length, .int .i64 ((p : Int) + 1)] w2 fun e w' => e = .returned (.int .i64 (skip t (p + 1) : Int)) ∧ w2 = w') := zz_skip (i := p + 1) (HT.out.kept HB2.out) hl hpl))
              refine HS2.out.mono ?_
              rintro e w' ⟨rfl, rfl⟩
              by_cases hcl : t[skip t (p + 1)]? = some 93
              · have HR : Hid (Reaches t d0 (0, i, []) (2, skip t (p + 1) + 1, st)) := HM.out.re.trans (m_empty HQ.out (by decide) (by omega) hcl)
                obtain ⟨hlt2, hget⟩ := List.getElem?_eq_some_iff.1 hcl
                have hcell2 : w2.cell? ⟨T, skip t (p + 1), none⟩ = some (.int .u8 93) := by
                  have := (HT.out.kept HB2.out).cellAt hlt2
                  rwa [hget] at this
                clear hcl hget HS2
                generalize skip t (p + 1) = q at *
                go_wp2
                go_quiet ((go_at_call 21; exact Calls.quiet_of_same (HCl.out _)))
                go_wp2
                go_roundw
                case rel => exact ⟨2, q + 1, st, g2, cap2, by omega, by omega, hst, rfl, by go_num, rfl, ⟨ownsRow_pop (stk_len st) (by have := HO2.out; rwa [stk_cons] at this), below_drewN HB2.out _, HR.out⟩⟩
                case measure => simp [intOf]; omega
              · have HR : Hid (Reaches t d0 (0, i, []) (0, skip t (p + 1), 91 :: st)) := HM.out.re.trans (m_open HQ.out (by decide) (by omega) hcl)
                by_cases hlt2 : skip t (p + 1) < t.length
                · have hne : t[skip t (p + 1)] ≠ 93 := fun e => hcl (by rw [at_lt hlt2, e])
                  have hcell2 := (HT.out.kept HB2.out).cellAt hlt2
                  clear hcl HS2
                  generalize t[skip t (p + 1)] = y at *
                  have e1 : (((y.toNat : Int)) == 93) = false := ne_beq 93 hne
                  clear hne
                  generalize skip t (p + 1) = q at *
                  go_wp2
                  go_quiet ((go_at_call 21; exact Calls.quiet_of_same (HCl.out _)))
                  go_wp2
                  go_roundw
                  case rel => exact ⟨0, q, 91 :: st, g2, cap2, by omega, by omega, by simp; omega, rfl, rfl, rfl, ⟨HO2.out, below_drewN HB2.out _, HR.out⟩⟩
                  case measure => simp [intOf]; omega
                · clear hcl HS2
                  generalize skip t (p + 1) = q at *
                  have e1 : decide ((q : Int) < (t.length : Int)) = false := by simp; omega
                  go_wp2
                  go_quiet (fail)
                  go_wp2
                  go_roundw
                  case rel => exact ⟨0, q, 91 :: st, g2, cap2, by omega, by omega, by simp; omega, rfl, rfl, rfl, ⟨HO2.out, below_drewN HB2.out _, HR.out⟩⟩
                  case measure => simp [intOf]; omega
        by_cases h2 : c = 34
        · subst h2
          as_aux_lemma =>
            have hv := v_string (d0 := d0) (d := 0) (st := st) HQ.out
            have hc2 := zz_str HTr.out hl hpl
            have hbd : (SL t (p + 1)).getD (p + 1) ≤ t.length := by
              cases hs : SL t (p + 1) with
              | none => exact hpl
              | some q => exact (SL_bd hs).2
            generalize (SL t (p + 1)).getD (p + 1) = q at *
            generalize (SL t (p + 1)).isSome = b at *
            have HC2 : Hid (Calls Try.prog 22 #[.slice (some ⟨T, 0, none⟩) t.length t.length, .int .i64 (p : Int)] wr fun e w' => e = .returned (.tuple #[.bool b, .int .i64 (q : Int)]) ∧ wr = w') := hc2
            clear hc2
            rcases hv with ⟨rfl, _, hlt, hr⟩ | ⟨rfl, _, e, _, he, hh⟩
            · have HR : Hid (Reaches t d0 (0, p, st) (2, q, st)) := hr
              clear hr
              go_wp2_with (first | (go_at_call 22; refine HC2.out.mono ?_; rintro e w' ⟨rfl, rfl⟩))
              go_roundw
              case rel => exact ⟨2, q, st, g, cap, by omega, hbd, hst, rfl, rfl, rfl, HM.out.to HR.out⟩
              case measure => simp [intOf]; omega
            · obtain rfl : e = 0 := by omega
              have HH : Hid (Halts t d0 (0, i, []) (false, q, 0)) := HM.out.re.halts hh
              clear hh he
              go_wp2_with (first | (go_at_call 22; refine HC2.out.mono ?_; rintro e w' ⟨rfl, rfl⟩))
              go_ret3
              exact MPost.no rfl HH.out HM.out.bel
        by_cases h3 : c = 116
        · subst h3
          as_aux_lemma =>
            have hv := v_word (d := 0) (l := wTrue) (by decide) ((v_lit (d0 := d0) (st := st) HQ.out (by decide) (by decide)).trans (by rfl))
            have hc2 := zz_lit_True HTr.out hl HQ.out
            have hbd : (if wTrue.isPrefixOf (t.drop p) = true then p + wTrue.length else p) ≤ t.length := lit_bd hp
            generalize (if wTrue.isPrefixOf (t.drop p) = true then p + wTrue.length else p) = q at *
            generalize wTrue.isPrefixOf (t.drop p) = b at *
            have HC2 : Hid (Calls Try.prog 23 #[.slice (some ⟨T, 0, none⟩) t.length t.length, .int .i64 (p : Int)] wr fun e w' => e = .returned (.tuple #[.bool b, .int .i64 (q : Int)]) ∧ ∃ n, w' = wr.drewN n) := hc2
            clear hc2
            rcases hv with ⟨rfl, _, hlt, hr⟩ | ⟨rfl, _, e, _, he, hh⟩
            · have HR : Hid (Reaches t d0 (0, p, st) (2, q, st)) := hr
              clear hr
              go_wp2_with (first | (go_at_call 23; refine HC2.out.mono ?_; rintro e w2 ⟨rfl, n2, hw2⟩; have HM2 : Hid (MS w w2 t d0 i g cap 0 p st) := (by rw [hw2]; exact HM.out.drewN n2 : MS w w2 t d0 i g cap 0 p st); clear hw2))
              go_roundw
              case rel => exact ⟨2, q, st, g, cap, by omega, hbd, hst, rfl, rfl, rfl, HM2.out.to HR.out⟩
              case measure => simp [intOf]; omega
            · obtain rfl : e = 0 := by omega
              have HH : Hid (Halts t d0 (0, i, []) (false, q, 0)) := HM.out.re.halts hh
              clear hh he
              go_wp2_with (first | (go_at_call 23; refine HC2.out.mono ?_; rintro e w2 ⟨rfl, n2, hw2⟩; have HM2 : Hid (MS w w2 t d0 i g cap 0 p st) := (by rw [hw2]; exact HM.out.drewN n2 : MS w w2 t d0 i g cap 0 p st); clear hw2))
              go_ret3
              exact MPost.no rfl HH.out HM2.out.bel
        by_cases h4 : c = 102
        · subst h4
          as_aux_lemma =>
            have hv := v_word (d := 0) (l := wFalse) (by decide) ((v_lit (d0 := d0) (st := st) HQ.out (by decide) (by decide)).trans (by rfl))
            have hc2 := zz_lit_False HTr.out hl HQ.out
            have hbd : (if wFalse.isPrefixOf (t.drop p) = true then p + wFalse.length else p) ≤ t.length := lit_bd hp
            generalize (if wFalse.isPrefixOf (t.drop p) = true then p + wFalse.length else p) = q at *
            generalize wFalse.isPrefixOf (t.drop p) = b at *
            have HC2 : Hid (Calls Try.prog 23 #[.slice (some ⟨T, 0, none⟩) t.length t.length, .int .i64 (p : Int)] wr fun e w' => e = .returned (.tuple #[.bool b, .int .i64 (q : Int)]) ∧ ∃ n, w' = wr.drewN n) := hc2
            clear hc2
            rcases hv with ⟨rfl, _, hlt, hr⟩ | ⟨rfl, _, e, _, he, hh⟩
            · have HR : Hid (Reaches t d0 (0, p, st) (2, q, st)) := hr
              clear hr
              go_wp2_with (first | (go_at_call 23; refine HC2.out.mono ?_; rintro e w2 ⟨rfl, n2, hw2⟩; have HM2 : Hid (MS w w2 t d0 i g cap 0 p st) := (by rw [hw2]; exact HM.out.drewN n2 : MS w w2 t d0 i g cap 0 p st); clear hw2))
              go_roundw
              case rel => exact ⟨2, q, st, g, cap, by omega, hbd, hst, rfl, rfl, rfl, HM2.out.to HR.out⟩
              case measure => simp [intOf]; omega
            · obtain rfl : e = 0 := by omega
              have HH : Hid (Halts t d0 (0, i, []) (false, q, 0)) := HM.out.re.halts hh
              clear hh he
              go_wp2_with (first | (go_at_call 23; refine HC2.out.mono ?_; rintro e w2 ⟨rfl, n2, hw2⟩; have HM2 : Hid (MS w w2 t d0 i g cap 0 p st) := (by rw [hw2]; exact HM.out.drewN n2 : MS w w2 t d0 i g cap 0 p st); clear hw2))
              go_ret3
              exact MPost.no rfl HH.out HM2.out.bel
        by_cases h5 : c = 110
        · subst h5
          as_aux_lemma =>
            have hv := v_word (d := 0) (l := wNull) (by decide) ((v_lit (d0 := d0) (st := st) HQ.out (by decide) (by decide)).trans (by rfl))
            have hc2 := zz_lit_Null HTr.out hl HQ.out
            have hbd : (if wNull.isPrefixOf (t.drop p) = true then p + wNull.length else p) ≤ t.length := lit_bd hp
            generalize (if wNull.isPrefixOf (t.drop p) = true then p + wNull.length else p) = q at *
            generalize wNull.isPrefixOf (t.drop p) = b at *
            have HC2 : Hid (Calls Try.prog 23 #[.slice (some ⟨T, 0, none⟩) t.length t.length, .int .i64 (p : Int)] wr fun e w' => e = .returned (.tuple #[.bool b, .int .i64 (q : Int)]) ∧ ∃ n, w' = wr.drewN n) := hc2
            clear hc2
            rcases hv with ⟨rfl, _, hlt, hr⟩ | ⟨rfl, _, e, _, he, hh⟩
            · have HR : Hid (Reaches t d0 (0, p, st) (2, q, st)) := hr
              clear hr
              go_wp2_with (first | (go_at_call 23; refine HC2.out.mono ?_; rintro e w2 ⟨rfl, n2, hw2⟩; have HM2 : Hid (MS w w2 t d0 i g cap 0 p st) := (by rw [hw2]; exact HM.out.drewN n2 : MS w w2 t d0 i g cap 0 p st); clear hw2))
              go_roundw
              case rel => exact ⟨2, q, st, g, cap, by omega, hbd, hst, rfl, rfl, rfl, HM2.out.to HR.out⟩
              case measure => simp [intOf]; omega
            · obtain rfl : e = 0 := by omega
              have HH : Hid (Halts t d0 (0, i, []) (false, q, 0)) := HM.out.re.halts hh
              clear hh he
              go_wp2_with (first | (go_at_call 23; refine HC2.out.mono ?_; rintro e w2 ⟨rfl, n2, hw2⟩; have HM2 : Hid (MS w w2 t d0 i g cap 0 p st) := (by rw [hw2]; exact HM.out.drewN n2 : MS w w2 t d0 i g cap 0 p st); clear hw2))
              go_ret3
              exact MPost.no rfl HH.out HM2.out.bel
        have g0 : (((c.toNat : Int)) == 123) = false := ne_beq 123 h0
        have g1 : (((c.toNat : Int)) == 91) = false := ne_beq 91 h1
        have g2 : (((c.toNat : Int)) == 34) = false := ne_beq 34 h2
        have g3 : (((c.toNat : Int)) == 116) = false := ne_beq 116 h3
        have g4 : (((c.toNat : Int)) == 102) = false := ne_beq 102 h4
        have g5 : (((c.toNat : Int)) == 110) = false := ne_beq 110 h5
        have hv := v_number (d := 0) ((v_lit (d0 := d0) (st := st) HQ.out (by rintro (h | h) <;> contradiction) h2).trans (by rw [if_neg h3, if_neg h4, if_neg h5]))
        clear h0 h1 h2 h3 h4 h5 HQ
        as_aux_lemma =>
          have hc2 := zz_number HTr.out hl hp
          have hbd := (NR_le (st := 0) hp).2
          generalize (NR t p 0).1 = q at *
          generalize numAcc (NR t p 0).2 = b at *
          have HC2 : Hid (Calls Try.prog 24 #[.slice (some ⟨T, 0, none⟩) t.length t.length, .int .i64 (p : Int)] wr fun e w' => e = .returned (.tuple #[.bool b, .int .i64 (q : Int)]) ∧ wr = w') := hc2
          clear hc2
          rcases hv with ⟨rfl, _, hlt, hr⟩ | ⟨rfl, _, e, _, he, hh⟩
          · have HR : Hid (Reaches t d0 (0, p, st) (2, q, st)) := hr
            clear hr
            go_wp2_with (first | (go_at_call 24; refine HC2.out.mono ?_; rintro e w' ⟨rfl, rfl⟩))
            go_roundw
            case rel => exact ⟨2, q, st, g, cap, by omega, hbd, hst, rfl, rfl, rfl, HM.out.to HR.out⟩
            case measure => simp [intOf]; omega
          · obtain rfl : e = 0 := by omega
            have HH : Hid (Halts t d0 (0, i, []) (false, q, 0)) := HM.out.re.halts hh
            clear hh he
            go_wp2_with (first | (go_at_call 24; refine HC2.out.mono ?_; rintro e w' ⟨rfl, rfl⟩))
            go_ret3
            exact MPost.no rfl HH.out HM.out.bel
      · have hlt : decide ((p : Int) < (t.length : Int)) = false := by simp; omega
        have hv := v_number (d := 0) (v_end (d0 := d0) (st := st) hpl)
        as_aux_lemma =>
          have hc2 := zz_number HTr.out hl hp
          have hbd := (NR_le (st := 0) hp).2
          generalize (NR t p 0).1 = q at *
          generalize numAcc (NR t p 0).2 = b at *
          have HC2 : Hid (Calls Try.prog 24 #[.slice a t.length t.length, .int .i64 (p : Int)] wr fun e w' => e = .returned (.tuple #[.bool b, .int .i64 (q : Int)]) ∧ wr = w') := hc2
          clear hc2
          rcases hv with ⟨rfl, _, hlt, hr⟩ | ⟨rfl, _, e, _, he, hh⟩
          · have HR : Hid (Reaches t d0 (0, p, st) (2, q, st)) := hr
            clear hr
            go_wp2_with (first | (go_at_call 24; refine HC2.out.mono ?_; rintro e w' ⟨rfl, rfl⟩))
            go_roundw
            case rel => exact ⟨2, q, st, g, cap, by omega, hbd, hst, rfl, rfl, rfl, HM.out.to HR.out⟩
            case measure => simp [intOf]; omega
          · obtain rfl : e = 0 := by omega
            have HH : Hid (Halts t d0 (0, i, []) (false, q, 0)) := HM.out.re.halts hh
            clear hh he
            go_wp2_with (first | (go_at_call 24; refine HC2.out.mono ?_; rintro e w' ⟨rfl, rfl⟩))
            go_ret3
            exact MPost.no rfl HH.out HM.out.bel
    · as_aux_lemma =>
        by_cases hq : t[p]? = some 34
        · obtain ⟨hpl, hget⟩ := List.getElem?_eq_some_iff.1 hq
          obtain ⟨T, rfl, _, hcell⟩ := HTr.out.at hpl
          rw [hget] at hcell
          have HQ : Hid (t[p]? = some 34) := hq
          clear hq hget
          have hc2 := zz_str HTr.out hl hpl
          cases hs : SL t (p + 1) with
          | none =>
            rw [hs] at hc2
            have HC2 : Hid (Calls Try.prog 22 #[.slice (some ⟨T, 0, none⟩) t.length t.length, .int .i64 (p : Int)] wr fun e w' => e = .returned (.tuple #[.bool false, .int .i64 ((p : Int) + 1)]) ∧ wr = w') := hc2
            have HH : Hid (Halts t d0 (0, i, []) (false, p + 1, 0)) := HM.out.re.halts (n_badstr HQ.out hs)
            clear hc2 hs
            go_wp2_with (first | (go_at_call 22; refine HC2.out.mono ?_; rintro e w' ⟨rfl, rfl⟩))
            go_ret3
            exact MPost.no (p := p + 1) rfl HH.out HM.out.bel
          | some q =>
            rw [hs] at hc2
            obtain ⟨hq1, hq2⟩ := SL_bd hs
            have HC2 : Hid (Calls Try.prog 22 #[.slice (some ⟨T, 0, none⟩) t.length t.length, .int .i64 (p : Int)] wr fun e w' => e = .returned (.tuple #[.bool true, .int .i64 (q : Int)]) ∧ wr = w') := hc2
            have HS1 : Hid (Calls Try.prog 20 #[.slice (some ⟨T, 0, none⟩) t.length t.length, .int .i64 (q : Int)] wr fun e w' => e = .returned (.int .i64 (skip t q : Int)) ∧ wr = w') := zz_skip HTr.out hl hq2
            have hskb := skip_le t q hq2
            have hskg := skip_ge t q
            by_cases hco : t[skip t q]? = some 58
            · have HR : Hid (Reaches t d0 (1, p, st) (0, skip t (skip t q + 1), st)) := n_colon HQ.out hs hco
              obtain ⟨hlt2, hget⟩ := List.getElem?_eq_some_iff.1 hco
              have hcell2 := HTr.out.cellAt hlt2
              rw [hget] at hcell2
              clear hc2 hs hco hget
              have HS2 : Hid (Calls Try.prog 20 #[.slice (some ⟨T, 0, none⟩) t.length t.length, .int .i64 ((skip t q : Int) + 1)] wr fun e w' => e = .returned (.int .i64 (skip t (skip t q + 1) : Int)) ∧ wr = w') := zz_skip (i := skip t q + 1) HTr.out hl hlt2
              have hskb2 := skip_le t (skip t q + 1) hlt2
              have hskg2 := skip_ge t (skip t q + 1)
              generalize skip t (skip t q + 1) = z at *
              generalize skip t q = r at *
              go_wp2_with (first | (go_at_call 22; refine HC2.out.mono ?_; rintro e w' ⟨rfl, rfl⟩) | (go_at_call_of 20 (Value.int .i64 (q : Int)); refine HS1.out.mono ?_; rintro e w' ⟨rfl, rfl⟩))
              refine HS2.out.mono ?_
              rintro e w' ⟨rfl, rfl⟩
              go_wp2
              go_roundw
              case rel => exact ⟨0, z, st, g, cap, by omega, by omega, hst, rfl, rfl, rfl, HM.out.to HR.out⟩
              case measure => simp [intOf]; omega
            · have HH : Hid (Halts t d0 (0, i, []) (false, skip t q, 0)) := HM.out.re.halts (n_nocolon HQ.out hs hco)
              by_cases hlt2 : skip t q < t.length
              · have hne : t[skip t q] ≠ 58 := fun e => hco (by rw [at_lt hlt2, e])
                have hcell2 := HTr.out.cellAt hlt2
                clear hc2 hs hco
                generalize t[skip t q] = y at *
                generalize skip t q = r at *
                have e1 : (((y.toNat : Int)) != 58) = true := u8_neb (k := 58) hne
                clear hne
                go_wp2_with (first | (go_at_call 22; refine HC2.out.mono ?_; rintro e w' ⟨rfl, rfl⟩) | (go_at_call_of 20 (Value.int .i64 (q : Int)); refine HS1.out.mono ?_; rintro e w' ⟨rfl, rfl⟩))
                go_ret3
                exact MPost.no (p := r) rfl HH.out HM.out.bel
              · clear hc2 hs hco
                generalize skip t q = r at *
                go_wp2_with (first | (go_at_call 22; refine HC2.out.mono ?_; rintro e w' ⟨rfl, rfl⟩) | (go_at_call_of 20 (Value.int .i64 (q : Int)); refine HS1.out.mono ?_; rintro e w' ⟨rfl, rfl⟩))
                go_ret3
                exact MPost.no (p := r) rfl HH.out HM.out.bel
        · have HH : Hid (Halts t d0 (0, i, []) (false, p, 0)) := HM.out.re.halts (n_notquote hq)
          by_cases hpl : p < t.length
          · obtain ⟨T, rfl, _, hcell⟩ := HTr.out.at hpl
            have hne : t[p] ≠ 34 := fun e => hq (by rw [at_lt hpl, e])
            clear hq
            generalize t[p] = y at *
            have e1 : (((y.toNat : Int)) != 34) = true := u8_neb (k := 34) hne
            clear hne
            go_wp2
            go_ret3
            exact MPost.no (p := p) rfl HH.out HM.out.bel
          · clear hq
            go_wp2
            go_ret3
            exact MPost.no (p := p) rfl HH.out HM.out.bel
    · as_aux_lemma =>
        cases st with
        | nil =>
          have HH : Hid (Halts t d0 (0, i, []) (true, p, 0)) := HM.out.re.halts (Halts.now rfl)
          go_wp2
          go_ret3
          exact MPost.yes (p := p) rfl HH.out HM.out.bel
        | cons k st =>
          have htop := HM.out.top
          obtain ⟨_, _, hvv, _, hcap⟩ := owned_form2 HM.out.own
          cases hvv
          have hskb := skip_le t p hp
          have hskg := skip_ge t p
          rw [List.length_cons] at hst
          have hlc : (k :: st).length = st.length + 1 := rfl
          rw [hlc]
          clear hlc
          have HS1 : Hid (Calls Try.prog 20 #[.slice a t.length t.length, .int .i64 (p : Int)] wr fun e w' => e = .returned (.int .i64 (skip t p : Int)) ∧ wr = w') := zz_skip HTr.out hl hp
          have HCl : Hid (∀ w, Calls Try.prog 21 #[.int .u8 (k.toNat : Int)] w fun e w' => e = .returned (.int .u8 ((closer k).toNat : Int)) ∧ w' = w) := fun w => (zz_closer (w := w) k).mono fun _ _ ⟨h1, h2⟩ => ⟨h1, h2.symm⟩
          by_cases hcl : t[skip t p]? = some (closer k)
          · have HR : Hid (Reaches t d0 (0, i, []) (2, skip t p + 1, st)) := HM.out.re.trans (m_close hcl)
            obtain ⟨hlt2, hget⟩ := List.getElem?_eq_some_iff.1 hcl
            obtain ⟨T, rfl, _, hcell2⟩ := HTr.out.at hlt2
            rw [hget] at hcell2
            clear hcl hget
            generalize skip t p = q at *
            generalize closer k = y at *
            go_wp2_with (first | (go_at_call 20; refine HS1.out.mono ?_; rintro e w' ⟨rfl, rfl⟩))
            go_quiet ((go_at_call 21; exact Calls.quiet_of_same (HCl.out _)))
            go_wp2
            go_roundw
            case rel => exact ⟨2, q + 1, st, g, cap, by omega, by omega, by omega, rfl, by go_num, rfl, ((HM.out.drewN _).pop HR.out)⟩
            case measure => simp [intOf]; omega
          · by_cases hlt2 : skip t p < t.length
            · obtain ⟨T, rfl, _, hcell2⟩ := HTr.out.at hlt2
              have hne : t[skip t p] ≠ closer k := fun e => hcl (by rw [at_lt hlt2, e])
              by_cases hcm : t[skip t p] = 44
              · have hcm2 : t[skip t p]? = some 44 := by rw [at_lt hlt2, hcm]
                have hcs : ∃ m : Nat, (m = if k = 123 then 1 else 0) := ⟨_, rfl⟩
                obtain ⟨m, hmk⟩ := hcs
                have HR : Hid (Reaches t d0 (2, p, k :: st) (m, skip t (skip t p + 1), k :: st)) := by
                  show Reaches _ _ _ _
                  rw [hmk]
                  exact m_comma hcl hcm2
                rw [hcm] at hcell2 hne
                have e1 : ((44 : Int) == ((closer k).toNat : Int)) = false := u8_ne (c := 44) hne
                clear hne hcm hcl hcm2
                have HS2 : Hid (Calls Try.prog 20 #[.slice (some ⟨T, 0, none⟩) t.length t.length, .int .i64 ((skip t p : Int) + 1)] (wr) fun e w' => e = .returned (.int .i64 (skip t (skip t p + 1) : Int)) ∧ wr = w') := zz_skip (i := skip t p + 1) HTr.out hl hlt2
                have HS3 : Hid (∀ n, Calls Try.prog 20 #[.slice (some ⟨T, 0, none⟩) t.length t.length, .int .i64 ((skip t p : Int) + 1)] (wr.drewN n) fun e w' => e = .returned (.int .i64 (skip t (skip t p + 1) : Int)) ∧ wr.drewN n = w') := fun n => zz_skip (i := skip t p + 1) HTr.out hl hlt2
                have hskb2 := skip_le t (skip t p + 1) hlt2
                have hskg2 := skip_ge t (skip t p + 1)
                clear HS2
                generalize skip t (skip t p + 1) = z at *
                generalize skip t p = q at *
                generalize closer k = y at *
                by_cases hk : k = 123
                · rw [if_pos hk] at hmk
                  subst hmk
                  have e2 : (((k.toNat : Int)) == 123) = true := by rw [hk]; rfl
                  clear hk
                  go_wp2_with (first | (go_at_call 20; refine HS1.out.mono ?_; rintro e w' ⟨rfl, rfl⟩))
                  go_quiet ((go_at_call 21; exact Calls.quiet_of_same (HCl.out _)))
                  go_wp2_with fail
                  refine (HS3.out _).mono ?_
                  rintro e w' ⟨rfl, rfl⟩
                  go_wp2
                  go_roundw
                  case rel => exact ⟨1, z, k :: st, g, cap, by omega, by omega, by simp; omega, rfl, rfl, rfl, (HM.out.drewN _).to HR.out⟩
                  case measure => simp [intOf]; omega
                · rw [if_neg hk] at hmk
                  subst hmk
                  have e2 : (((k.toNat : Int)) == 123) = false := ne_beq 123 hk
                  clear hk
                  go_wp2_with (first | (go_at_call 20; refine HS1.out.mono ?_; rintro e w' ⟨rfl, rfl⟩))
                  go_quiet ((go_at_call 21; exact Calls.quiet_of_same (HCl.out _)))
                  go_wp2_with fail
                  refine (HS3.out _).mono ?_
                  rintro e w' ⟨rfl, rfl⟩
                  go_wp2
                  go_roundw
                  case rel => exact ⟨0, z, k :: st, g, cap, by omega, by omega, by simp; omega, rfl, rfl, rfl, (HM.out.drewN _).to HR.out⟩
                  case measure => simp [intOf]; omega
              · have hcm2 : t[skip t p]? ≠ some 44 := by rw [at_lt hlt2]; exact fun e => hcm (Option.some.inj e)
                have HH : Hid (Halts t d0 (0, i, []) (false, skip t p, 0)) := HM.out.re.halts (m_bad hcl hcm2)
                have e1 : (((t[skip t p].toNat : Int)) == ((closer k).toNat : Int)) = false := u8_ne hne
                have e2 : (((t[skip t p].toNat : Int)) == 44) = false := ne_beq 44 hcm
                clear hne hcm hcl hcm2
                generalize t[skip t p] = x at *
                generalize skip t p = q at *
                generalize closer k = y at *
                go_wp2_with (first | (go_at_call 20; refine HS1.out.mono ?_; rintro e w' ⟨rfl, rfl⟩))
                go_quiet ((go_at_call 21; exact Calls.quiet_of_same (HCl.out _)))
                go_wp2
                go_ret3
                exact MPost.no (p := q) rfl HH.out (below_drewN HM.out.bel _)
            · have HH : Hid (Halts t d0 (0, i, []) (false, skip t p, 0)) := HM.out.re.halts (m_bad hcl (by rw [at_ge hlt2]; simp))
              clear hcl
              generalize skip t p = q at *
              have e1 : decide ((q : Int) < (t.length : Int)) = false := by simp; omega
              go_wp2_with (first | (go_at_call 20; refine HS1.out.mono ?_; rintro e w' ⟨rfl, rfl⟩))
              go_quiet (fail)
              go_wp2
              go_ret3
              exact MPost.no (p := q) rfl HH.out (below_drewN HM.out.bel _)
end Go.Proofs.Qxb6628866a
