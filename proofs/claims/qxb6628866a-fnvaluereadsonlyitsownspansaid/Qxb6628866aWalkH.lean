/- The walk of Object with no member function of the caller's, by what Value does further on. -/
import Derived.Test.Qxb6628866aWalkG
namespace Go.Proofs.Qxb6628866a
open Go.RowKit

/-- Block B is the variable that holds the walk's address. -/
structure Box (w : World) (B X : Nat) : Prop where
  blk : w.heap[B]? = some (.cells #[.pointer (some ⟨X, 0, none⟩)] 25 (0, 0))
  ne : B ≠ X
theorem Box.c {w : World} {B X : Nat} (h : Box w B X) : w.cell? ⟨B, 0, none⟩ = some (.pointer (some ⟨X, 0, none⟩)) := by rw [cell_of_row _ _ 0 _ _ _ h.blk]; rfl
theorem Box.kept {w w' : World} {B X : Nat} (h : Box w B X) (g : w.grownBy w' (some X)) : Box w' B X :=
  ⟨(g.block B (Array.getElem?_eq_some_iff.1 h.blk).1 (by simpa using h.ne)).trans h.blk, h.ne⟩

set_option maxHeartbeats 400000 in
/-- The closure that walks a member's value. -/
theorem closure_any {t : List UInt8} {i : Nat} (ih : ValueAt t i) {w : World} {X B : Nat} {a : Option Addr} {d d0 : Nat} {st : List UInt8} (v : Value) (hb : Box w B X) (h : St w X a t i d) (hd : d = d0 + st.length) (hd1 : d ≤ 10000) :
    Calls Try.prog 28 #[v, .pointer (some ⟨B, 0, none⟩)] w fun e w' => ∃ b j d', e = .returned (.bool b) ∧ St w' X a t j d' ∧ w.grownBy w' (some X) ∧ VOk t d0 st i d b j d' := by
  have hc := hb.c
  have HV := ih w X a d d0 st h hd hd1
  have HVH : Hid (Calls Try.prog 8 #[.pointer (some ⟨X, 0, none⟩)] w fun e w' => ∃ b j d', e = .returned (.bool b) ∧ St w' X a t j d' ∧ w.grownBy w' (some X) ∧ VOk t d0 st i d b j d') := HV
  clear HV ih h hb hd
  go_enter Try.func28, Try.ntmps28
  go_wp2_with fail
  refine HVH.out.mono ?_
  rintro e w1 ⟨b, j, d', rfl, h1, h2, h3⟩
  clear HVH
  go_wp2
  go_ret
  exact ⟨b, j, d', rfl, h1, h2, h3⟩

theorem n_notquote {t : List UInt8} {d0 p : Nat} {st : List UInt8} (h : t[p]? ≠ some 34) : Halts t d0 (1, p, st) (false, p, 0) := by
  refine Halts.now ?_
  rw [step_name, nameOut, if_neg h]
theorem n_badstr {t : List UInt8} {d0 p : Nat} {st : List UInt8} (h : t[p]? = some 34) (hs : SL t (p + 1) = none) : Halts t d0 (1, p, st) (false, p + 1, 0) := by
  refine Halts.now ?_
  unfold SL at hs
  rw [Option.map_eq_none_iff] at hs
  rw [step_name, nameOut, if_pos h, hs]
theorem n_nocolon {t : List UInt8} {d0 p q : Nat} {st : List UInt8} (h : t[p]? = some 34) (hs : SL t (p + 1) = some q) (hc : t[skip t q]? ≠ some 58) : Halts t d0 (1, p, st) (false, skip t q, 0) := by
  refine Halts.now ?_
  unfold SL at hs
  obtain ⟨k, hk, rfl⟩ := Option.map_eq_some_iff.1 hs
  rw [Nat.add_comm k] at hc ⊢
  rw [step_name, nameOut, if_pos h, hk]
  simp only
  rw [if_neg hc]
theorem n_colon {t : List UInt8} {d0 p q : Nat} {st : List UInt8} (h : t[p]? = some 34) (hs : SL t (p + 1) = some q) (hc : t[skip t q]? = some 58) : Reaches t d0 (1, p, st) (0, skip t (skip t q + 1), st) := by
  refine Reaches.one ?_
  unfold SL at hs
  obtain ⟨k, hk, rfl⟩ := Option.map_eq_some_iff.1 hs
  rw [Nat.add_comm k] at hc ⊢
  rw [step_name, nameOut, if_pos h, hk]
  simp only
  rw [if_pos hc]

theorem string_some {w : World} {X : Nat} {a : Option Addr} {t : List UInt8} {i d q : Nat} (h : St w X a t i d) (hq : t[i]? = some 34) (hs : SL t (i + 1) = some q) :
    Calls Try.prog 17 #[.pointer (some ⟨X, 0, none⟩)] w fun e w' => e = .returned (.bool true) ∧ St w' X a t q d ∧ w.grownBy w' (some X) := by
  have := string_yes h hq
  rw [hs] at this
  exact this
theorem string_none {w : World} {X : Nat} {a : Option Addr} {t : List UInt8} {i d : Nat} (h : St w X a t i d) (hq : t[i]? = some 34) (hs : SL t (i + 1) = none) :
    Calls Try.prog 17 #[.pointer (some ⟨X, 0, none⟩)] w fun e w' => e = .returned (.bool false) ∧ St w' X a t (i + 1) d ∧ w.grownBy w' (some X) := by
  have := string_yes h hq
  rw [hs] at this
  exact this

set_option maxHeartbeats 1600000 in
theorem object_any {t : List UInt8} {i : Nat} (ih : ∀ i2, i < i2 → ValueAt t i2) {w : World} {X : Nat} {a : Option Addr} {d d0 : Nat} {st : List UInt8} (h : St w X a t i d) (hd : d = d0 + st.length) (hd1 : d ≤ 10000) (hc : t[i]? = some 123) :
    Calls Try.prog 15 #[.pointer (some ⟨X, 0, none⟩), .nilFunc] w fun e w' => ∃ b j d', e = .returned (.bool b) ∧ St w' X a t j d' ∧ w.grownBy w' (some X) ∧ VOk t d0 st i d b j d' := by
  have IH : Hid (∀ i2, i < i2 → ValueAt t i2) := ih
  have HD : Hid (d = d0 + st.length) := hd
  have HC : Hid (t[i]? = some 123) := hc
  have hlen := h.len
  have hil : i < t.length := (List.getElem?_eq_some_iff.1 hc).1
  have hXl : X < w.heap.size := (Array.getElem?_eq_some_iff.1 h.blk).1
  have hmf : ∀ (fn : Fn) (first cap : Array Value) (w : World), (Instr.makeFunc fn first cap).run Try.prog w = .ok (.func fn first cap) w := fun _ _ _ _ => rfl
  have hqn : ∀ (w : World), Sem.run Try.prog (binOp .eql 42 .nilFunc .nilFunc) w = .ok (.bool true) w := fun _ => by kernel_rfl
  obtain ⟨T, ha, _⟩ := h.txt.at hil
  subst ha
  have HB0 : Hid (Box (w.alloc (.cells #[.pointer (some ⟨X, 0, none⟩)] 25)) w.heap.size X) := ⟨heap_alloc_new _ _, by omega⟩
  have HS0 : Hid (St (w.alloc (.cells #[.pointer (some ⟨X, 0, none⟩)] 25)) X (some ⟨T, 0, none⟩) t i d) := h.kept (Below.heap_alloc _ _ _ hXl) (G.alloc (G.refl _ _) _)
  have hgr0 : Hid (w.grownBy (w.alloc (.cells #[.pointer (some ⟨X, 0, none⟩)] 25)) (some X)) := G.alloc (G.refl _ _) _
  have hbx0 := HB0.out.c
  clear ih h hc hd
  by_cases hdeep : d + 1 ≤ 10000
  · go_enter_defers Try.func15, Try.ntmps15
    go_wp2_with (first | (go_at_call_of 25 (Value.int .u8 123); refine (next_yes 123 123 rfl HS0.out HC.out).mono ?_; rintro e w1 ⟨rfl, st1, gr1⟩; have hst1 : Hid (St w1 X (some ⟨T, 0, none⟩) t (i + 1) (d)) := st1; have hgr1 : Hid (w.grownBy w1 (some X)) := G.trans hgr0.out gr1; have HB1 : Hid (Box w1 w.heap.size X) := HB0.out.kept gr1; have hbx1 := HB1.out.c; clear st1 gr1) | (go_at_call 26; refine (enter_ok hst1.out hdeep).mono ?_; rintro e w2 ⟨rfl, st2, gr2⟩; have hst2 : Hid (St w2 X (some ⟨T, 0, none⟩) t (i + 1) (d + 1)) := st2; have hgr2 : Hid (w.grownBy w2 (some X)) := G.trans hgr1.out gr2; have HB2 : Hid (Box w2 w.heap.size X) := HB1.out.kept gr2; have hbx2 := HB2.out.c; clear st2 gr2) | (go_at_call 29; refine (space_any hst2.out).mono ?_; rintro e w3 ⟨rfl, st3, gr3⟩; have hst3 : Hid (St w3 X (some ⟨T, 0, none⟩) t (skip t (i + 1)) (d + 1)) := st3; have hgr3 : Hid (w.grownBy w3 (some X)) := G.trans hgr2.out gr3; have HB3 : Hid (Box w3 w.heap.size X) := HB2.out.kept gr3; have hbx3 := HB3.out.c; clear st3 gr3))
    have hsk1 := skip_ge t (i + 1)
    have hpos3 := hst3.out.pos
    by_cases hcl : t[skip t (i + 1)]? = some 125
    · have HR : Hid (Reaches t d0 (0, i, st) (2, skip t (i + 1) + 1, st)) := m_empty HC.out (.inl rfl) (by rw [← HD.out]; exact hdeep) hcl
      refine (next_yes 125 125 rfl hst3.out hcl).mono ?_
      rintro e w4 ⟨rfl, st4, gr4⟩
      have hst4 : Hid (St w4 X (some ⟨T, 0, none⟩) t (skip t (i + 1) + 1) (d + 1)) := st4
      have hgr4 : Hid (w.grownBy w4 (some X)) := G.trans hgr3.out gr4
      have HB4 : Hid (Box w4 w.heap.size X) := HB3.out.kept gr4
      have hbx4 := HB4.out.c
      clear st4 gr4
      go_wp2
      refine leaves_cons (f := 27) (args := #[.pointer (some ⟨X, 0, none⟩)]) (by simp) (by simp [go_sem]) ?_
      refine (leave_d .returning hst4.out).mono ?_
      rintro e u' wl ⟨rfl, rfl, stl, grl⟩
      exact ⟨_, results_tmp rfl _ _ _, true, _, _, rfl, stl, G.trans hgr4.out grl, .inl ⟨rfl, rfl, by omega, HR.out⟩⟩
    · have HR : Hid (Reaches t d0 (0, i, st) (1, skip t (i + 1), 123 :: st)) := m_open HC.out (.inl rfl) (by rw [← HD.out]; exact hdeep) hcl
      refine (next_no 125 125 rfl hst3.out hcl).mono ?_
      rintro e w4 ⟨rfl, st4, gr4⟩
      have hst4 : Hid (St w4 X (some ⟨T, 0, none⟩) t (skip t (i + 1)) (d + 1)) := st4
      have hgr4 : Hid (w.grownBy w4 (some X)) := G.trans hgr3.out gr4
      have HB4 : Hid (Box w4 w.heap.size X) := HB3.out.kept gr4
      have hbx4 := HB4.out.c
      clear st4 gr4
      clear hst1 hst2 hst3 hgr1 hgr2 hgr3 hcl HS0 hgr0 HB0 HB1 HB2 HB3 hbx0 hbx1 hbx2 hbx3
      go_wp2
      go_loopw [] (fun wr => ∃ j : Nat, i < j ∧ Hid (St wr X (some ⟨T, 0, none⟩) t j (d + 1)) ∧ Hid (w.grownBy wr (some X)) ∧ Hid (Box wr w.heap.size X) ∧ Hid (Reaches t d0 (0, i, st) (1, j, 123 :: st))) (fun wr => t.length - posOf wr X)
      case atStart => exact ⟨_, by omega, hst4, hgr4, HB4, HR⟩
      case round =>
        obtain ⟨j, hij, hst5, hgr5, HB5, hre⟩ := hrel
        have hbx5 := HB5.out.c
        have c51 := hst5.out.c1
        have HS5 : Hid (St wr X (some ⟨T, 0, none⟩) t j (d + 1)) := hst5
        have hj5 := hst5.out.pos
        clear hbx4
        by_cases hq : t[j]? = some 34
        · cases hsl : SL t (j + 1) with
          | none =>
            have HSL : Hid (SL t (j + 1) = none) := hsl
            clear hsl
            go_wp2_with fail
            refine (string_none hst5.out hq HSL.out).mono ?_
            rintro e w6 ⟨rfl, st6, gr6⟩
            have hst6 : Hid (St w6 X (some ⟨T, 0, none⟩) t (j + 1) (d + 1)) := st6
            have hgr6 : Hid (w.grownBy w6 (some X)) := G.trans hgr5.out gr6
            have HB6 : Hid (Box w6 w.heap.size X) := HB5.out.kept gr6
            have hbx6 := HB6.out.c
            clear st6 gr6
            go_wp2
            refine leaves_cons (f := 27) (args := #[.pointer (some ⟨X, 0, none⟩)]) (by simp) (by simp [go_sem]) ?_
            refine (leave_d .returning hst6.out).mono ?_
            rintro e u' wl ⟨rfl, rfl, stl, grl⟩
            exact ⟨_, results_tmp rfl _ _ _, false, _, _, rfl, stl, G.trans hgr6.out grl, .inr ⟨rfl, by omega, 0, by omega, rfl, hre.out.halts (n_badstr hq HSL.out)⟩⟩
          | some q =>
            obtain ⟨hq1, hq2⟩ := SL_bd hsl
            have HSL : Hid (SL t (j + 1) = some q) := hsl
            have HQ : Hid (t[j]? = some 34) := hq
            clear hsl hq
            go_wp2_with fail
            refine (string_some hst5.out HQ.out HSL.out).mono ?_
            rintro e w6 ⟨rfl, st6, gr6⟩
            have hst6 : Hid (St w6 X (some ⟨T, 0, none⟩) t (q) (d + 1)) := st6
            have hgr6 : Hid (w.grownBy w6 (some X)) := G.trans hgr5.out gr6
            have HB6 : Hid (Box w6 w.heap.size X) := HB5.out.kept gr6
            have hbx6 := HB6.out.c
            clear st6 gr6
            have c60 := hst6.out.c0
            have c61 := hst6.out.c1
            have hi1 : (0 : Int) ≤ (j : Int) + 1 := by omega
            have hi2 : (j : Int) + 1 ≤ (q : Int) - 1 := by omega
            have hi3 : (q : Int) - 1 ≤ (t.length : Int) := by omega
            clear c51
            go_wp2
            go_quiet (fail)
            have st7 := hst6.out.drewN nq
            have gr7 := G.drewN (G.refl w6 (some X)) nq
            generalize w6.drewN nq = w7 at st7 gr7 ⊢
            have hst7 : Hid (St w7 X (some ⟨T, 0, none⟩) t (q) (d + 1)) := st7
            have hgr7 : Hid (w.grownBy w7 (some X)) := G.trans hgr6.out gr7
            have HB7 : Hid (Box w7 w.heap.size X) := HB6.out.kept gr7
            have hbx7 := HB7.out.c
            clear st7 gr7
            clear c60 c61 hi1 hi2 hi3 hst5 hgr5
            have hsk7 := skip_ge t q
            go_wp2_with (first | (go_at_call 29; refine (space_any hst7.out).mono ?_; rintro e w8 ⟨rfl, st8, gr8⟩; have hst8 : Hid (St w8 X (some ⟨T, 0, none⟩) t (skip t q) (d + 1)) := st8; have hgr8 : Hid (w.grownBy w8 (some X)) := G.trans hgr7.out gr8; have HB8 : Hid (Box w8 w.heap.size X) := HB7.out.kept gr8; have hbx8 := HB8.out.c; clear st8 gr8))
            by_cases hco : t[skip t q]? = some 58
            · have HR8 : Hid (Reaches t d0 (0, i, st) (0, skip t (skip t q + 1), 123 :: st)) := hre.out.trans (n_colon HQ.out HSL.out hco)
              refine (next_yes 58 58 rfl hst8.out hco).mono ?_
              rintro e w9 ⟨rfl, st9, gr9⟩
              have hst9 : Hid (St w9 X (some ⟨T, 0, none⟩) t (skip t q + 1) (d + 1)) := st9
              have hgr9 : Hid (w.grownBy w9 (some X)) := G.trans hgr8.out gr9
              have HB9 : Hid (Box w9 w.heap.size X) := HB8.out.kept gr9
              have hbx9 := HB9.out.c
              clear st9 gr9
              have hsk9 := skip_ge t (skip t q + 1)
              go_wp2_with (first | (go_at_call 29; refine (space_any hst9.out).mono ?_; rintro e w10 ⟨rfl, st10, gr10⟩; have hst10 : Hid (St w10 X (some ⟨T, 0, none⟩) t (skip t (skip t q + 1)) (d + 1)) := st10; have hgr10 : Hid (w.grownBy w10 (some X)) := G.trans hgr9.out gr10; have HB10 : Hid (Box w10 w.heap.size X) := HB9.out.kept gr10; have hbx10 := HB10.out.c; clear st10 gr10))
              refine (closure_any (IH.out (skip t (skip t q + 1)) (by omega)) (d0 := d0) (st := 123 :: st) _ HB10.out hst10.out (by rw [HD.out]; simp; omega) hdeep).mono ?_
              rintro e w11 ⟨b, j5, d5, rfl, st11, gr11, hv⟩
              have hgr11 : Hid (w.grownBy w11 (some X)) := G.trans hgr10.out gr11
              have HB11 : Hid (Box w11 w.heap.size X) := HB10.out.kept gr11
              have hbx11 := HB11.out.c
              clear gr11
              rcases hv with ⟨rfl, rfl, hj5, hr5⟩ | ⟨rfl, hj5, e5, he5, rfl, hh5⟩
              · have hst11 : Hid (St w11 X (some ⟨T, 0, none⟩) t j5 (d + 1)) := st11
                have HR11 : Hid (Reaches t d0 (0, i, st) (2, j5, 123 :: st)) := HR8.out.trans hr5
                clear st11 hr5 HR8
                have hsk11 := skip_ge t j5
                go_wp2_with (first | (go_at_call 29; refine (space_any hst11.out).mono ?_; rintro e w12 ⟨rfl, st12, gr12⟩; have hst12 : Hid (St w12 X (some ⟨T, 0, none⟩) t (skip t j5) (d + 1)) := st12; have hgr12 : Hid (w.grownBy w12 (some X)) := G.trans hgr11.out gr12; have HB12 : Hid (Box w12 w.heap.size X) := HB11.out.kept gr12; have hbx12 := HB12.out.c; clear st12 gr12))
                by_cases hcl : t[skip t j5]? = some 125
                · have HR12 : Hid (Reaches t d0 (0, i, st) (2, skip t j5 + 1, st)) := HR11.out.trans (m_close hcl)
                  refine (next_yes 125 125 rfl hst12.out hcl).mono ?_
                  rintro e w13 ⟨rfl, st13, gr13⟩
                  have hst13 : Hid (St w13 X (some ⟨T, 0, none⟩) t (skip t j5 + 1) (d + 1)) := st13
                  have hgr13 : Hid (w.grownBy w13 (some X)) := G.trans hgr12.out gr13
                  have HB13 : Hid (Box w13 w.heap.size X) := HB12.out.kept gr13
                  have hbx13 := HB13.out.c
                  clear st13 gr13
                  go_wp2
                  refine leaves_cons (f := 27) (args := #[.pointer (some ⟨X, 0, none⟩)]) (by simp) (by simp [go_sem]) ?_
                  refine (leave_d .returning hst13.out).mono ?_
                  rintro e u' wl ⟨rfl, rfl, stl, grl⟩
                  exact ⟨_, results_tmp rfl _ _ _, true, _, _, rfl, stl, G.trans hgr13.out grl, .inl ⟨rfl, rfl, by omega, HR12.out⟩⟩
                · refine (next_no 125 125 rfl hst12.out hcl).mono ?_
                  rintro e w13 ⟨rfl, st13, gr13⟩
                  have hst13 : Hid (St w13 X (some ⟨T, 0, none⟩) t (skip t j5) (d + 1)) := st13
                  have hgr13 : Hid (w.grownBy w13 (some X)) := G.trans hgr12.out gr13
                  have HB13 : Hid (Box w13 w.heap.size X) := HB12.out.kept gr13
                  have hbx13 := HB13.out.c
                  clear st13 gr13
                  go_wp2_with fail
                  by_cases hcm : t[skip t j5]? = some 44
                  · have HR13 : Hid (Reaches t d0 (0, i, st) (1, skip t (skip t j5 + 1), 123 :: st)) := HR11.out.trans (m_comma hcl hcm)
                    refine (next_yes 44 44 rfl hst13.out hcm).mono ?_
                    rintro e w14 ⟨rfl, st14, gr14⟩
                    have hst14 : Hid (St w14 X (some ⟨T, 0, none⟩) t (skip t j5 + 1) (d + 1)) := st14
                    have hgr14 : Hid (w.grownBy w14 (some X)) := G.trans hgr13.out gr14
                    have HB14 : Hid (Box w14 w.heap.size X) := HB13.out.kept gr14
                    have hbx14 := HB14.out.c
                    clear st14 gr14
                    go_wp2_with (first | (go_at_call 29; refine (space_any hst14.out).mono ?_; rintro e w15 ⟨rfl, st15, gr15⟩; have hst15 : Hid (St w15 X (some ⟨T, 0, none⟩) t (skip t (skip t j5 + 1)) (d + 1)) := st15; have hgr15 : Hid (w.grownBy w15 (some X)) := G.trans hgr14.out gr15; have HB15 : Hid (Box w15 w.heap.size X) := HB14.out.kept gr15; have hbx15 := HB15.out.c; clear st15 gr15))
                    have hsk15 := skip_ge t (skip t j5 + 1)
                    go_roundw
                    case rel => exact ⟨_, by omega, hst15, hgr15, HB15, HR13⟩
                    case measure => exact meas HS5.out hst15.out (by omega)
                  · have HH13 : Hid (Halts t d0 (0, i, st) (false, skip t j5, 0)) := HR11.out.halts (m_bad hcl hcm)
                    refine (next_no 44 44 rfl hst13.out hcm).mono ?_
                    rintro e w14 ⟨rfl, st14, gr14⟩
                    have hst14 : Hid (St w14 X (some ⟨T, 0, none⟩) t (skip t j5) (d + 1)) := st14
                    have hgr14 : Hid (w.grownBy w14 (some X)) := G.trans hgr13.out gr14
                    have HB14 : Hid (Box w14 w.heap.size X) := HB13.out.kept gr14
                    have hbx14 := HB14.out.c
                    clear st14 gr14
                    go_wp2
                    refine leaves_cons (f := 27) (args := #[.pointer (some ⟨X, 0, none⟩)]) (by simp) (by simp [go_sem]) ?_
                    refine (leave_d .returning hst14.out).mono ?_
                    rintro e u' wl ⟨rfl, rfl, stl, grl⟩
                    exact ⟨_, results_tmp rfl _ _ _, false, _, _, rfl, stl, G.trans hgr14.out grl, .inr ⟨rfl, by omega, 0, by omega, rfl, HH13.out⟩⟩
              · have hst11 : Hid (St w11 X (some ⟨T, 0, none⟩) t j5 (d + e5 + 1)) := (by rw [Nat.add_right_comm]; exact st11 : St w11 X (some ⟨T, 0, none⟩) t j5 (d + e5 + 1))
                clear st11
                go_wp2
                refine leaves_cons (f := 27) (args := #[.pointer (some ⟨X, 0, none⟩)]) (by simp) (by simp [go_sem]) ?_
                refine (leave_d .returning hst11.out).mono ?_
                rintro e u' wl ⟨rfl, rfl, stl, grl⟩
                exact ⟨_, results_tmp rfl _ _ _, false, _, _, rfl, stl, G.trans hgr11.out grl, .inr ⟨rfl, by omega, e5, he5, rfl, HR8.out.halts hh5⟩⟩
            · have HH8 : Hid (Halts t d0 (0, i, st) (false, skip t q, 0)) := hre.out.halts (n_nocolon HQ.out HSL.out hco)
              refine (next_no 58 58 rfl hst8.out hco).mono ?_
              rintro e w9 ⟨rfl, st9, gr9⟩
              have hst9 : Hid (St w9 X (some ⟨T, 0, none⟩) t (skip t q) (d + 1)) := st9
              have hgr9 : Hid (w.grownBy w9 (some X)) := G.trans hgr8.out gr9
              have HB9 : Hid (Box w9 w.heap.size X) := HB8.out.kept gr9
              have hbx9 := HB9.out.c
              clear st9 gr9
              go_wp2
              refine leaves_cons (f := 27) (args := #[.pointer (some ⟨X, 0, none⟩)]) (by simp) (by simp [go_sem]) ?_
              refine (leave_d .returning hst9.out).mono ?_
              rintro e u' wl ⟨rfl, rfl, stl, grl⟩
              exact ⟨_, results_tmp rfl _ _ _, false, _, _, rfl, stl, G.trans hgr9.out grl, .inr ⟨rfl, by omega, 0, by omega, rfl, HH8.out⟩⟩
        · go_wp2_with fail
          refine (string_no hst5.out hq).mono ?_
          rintro e w6 ⟨rfl, st6, gr6⟩
          have hst6 : Hid (St w6 X (some ⟨T, 0, none⟩) t (j) (d + 1)) := st6
          have hgr6 : Hid (w.grownBy w6 (some X)) := G.trans hgr5.out gr6
          have HB6 : Hid (Box w6 w.heap.size X) := HB5.out.kept gr6
          have hbx6 := HB6.out.c
          clear st6 gr6
          go_wp2
          refine leaves_cons (f := 27) (args := #[.pointer (some ⟨X, 0, none⟩)]) (by simp) (by simp [go_sem]) ?_
          refine (leave_d .returning hst6.out).mono ?_
          rintro e u' wl ⟨rfl, rfl, stl, grl⟩
          exact ⟨_, results_tmp rfl _ _ _, false, _, _, rfl, stl, G.trans hgr6.out grl, .inr ⟨rfl, by omega, 0, by omega, rfl, hre.out.halts (n_notquote hq)⟩⟩
  · have HH : Hid (Halts t d0 (0, i, st) (false, i + 1, 1)) := m_deep HC.out (.inl rfl) (by rw [← HD.out]; exact hdeep)
    go_enter_defers Try.func15, Try.ntmps15
    go_wp2_with (first | (go_at_call_of 25 (Value.int .u8 123); refine (next_yes 123 123 rfl HS0.out HC.out).mono ?_; rintro e w1 ⟨rfl, st1, gr1⟩; have hst1 : Hid (St w1 X (some ⟨T, 0, none⟩) t (i + 1) (d)) := st1; have hgr1 : Hid (w.grownBy w1 (some X)) := G.trans hgr0.out gr1; have HB1 : Hid (Box w1 w.heap.size X) := HB0.out.kept gr1; have hbx1 := HB1.out.c; clear st1 gr1) | (go_at_call 26; refine (enter_deep hst1.out hd1 hdeep).mono ?_; rintro e w2 ⟨rfl, st2, gr2⟩; have hst2 : Hid (St w2 X (some ⟨T, 0, none⟩) t (i + 1) (d + 1)) := st2; have hgr2 : Hid (w.grownBy w2 (some X)) := G.trans hgr1.out gr2; have HB2 : Hid (Box w2 w.heap.size X) := HB1.out.kept gr2; have hbx2 := HB2.out.c; clear st2 gr2))
    exact ⟨_, results_tmp rfl _ _ _, false, _, _, rfl, hst2.out, hgr2.out, .inr ⟨rfl, by omega, 1, by omega, rfl, HH.out⟩⟩
end Go.Proofs.Qxb6628866a
