/- The walk of FnValueReadsOnlyItsOwnSpan. -/
import Derived.Test.Qxb6628866aWalkR
import Derived.Test.Qxb6628866aPlainCut
namespace Go.Proofs.Qxb6628866a
open Go.RowKit

theorem Src.kept {w w' : World} {a : Option Addr} {cap : Nat} {t : List UInt8} (h : Src w a cap t) (g : Below w.heap.size w w') : Src w' a cap t := by
  rcases h with h | ⟨x, rfl, h1, h2⟩
  · exact .inl h
  · exact .inr ⟨x, rfl, h1, fun j hj => (g.cell (p := x.add j) (World.block_lt_of_cell? _ _ (h2 j hj))).trans (h2 j hj)⟩
theorem Tm.none_nil {w : World} {t : List UInt8} (h : Tm w none t) : t = [] := by
  rcases h with h | ⟨T, e, _⟩
  · exact h
  · cases e

/-- A slice of a clone up to j. -/
theorem Tm.cut {w : World} {a : Option Addr} {t : List UInt8} (h : Tm w a t) (j : Nat) (hj : j ≤ t.length) : Src w a t.length (t.take j) := by
  cases a with
  | none =>
    have := h.none_nil
    subst this
    exact .inl ⟨rfl, by simp, rfl⟩
  | some x =>
    refine .inr ⟨x, rfl, by simp; omega, fun k hk => ?_⟩
    have hk2 : k < t.length := by simp at hk; omega
    obtain ⟨T, e, _, hc⟩ := h.at hk2
    cases e
    rw [show (⟨T, 0, none⟩ : Addr).add k = ⟨T, k, none⟩ by unfold Addr.add; split <;> simp_all, hc]
    simp

set_option maxRecDepth 10000 in
set_option maxHeartbeats 2000000 in
theorem law_span_main (hmod : Mod) (a0 b0 : Option Addr) (cap0 cap1 : Nat) (s t : List UInt8) (i d : Nat) (w : World) (hs : Src w a0 cap0 s) (ht : Src w b0 cap1 t) (hl : s.length + t.length ≤ 1048576) (hi : i ≤ t.length) (hd : d ≤ 10000) :
    Calls Try.prog 4 #[.slice a0 s.length cap0, .slice b0 t.length cap1, .int .i64 (i : Int), .int .i64 (d : Int)] w fun e w' => e = .returned (.bool true) ∧ Below w.heap.size w w' := by
  have HMod : Hid Mod := hmod
  have HS : Hid (Src w a0 cap0 s) := hs
  have HT : Hid (Src w b0 cap1 t) := ht
  have hls : s.length ≤ 1048576 := by omega
  have hlt : t.length ≤ 1048576 := by omega
  have hb := zz_bytes2 (w := w) (a := a0) (b := b0) (n := s.length) (c := cap0) (n2 := t.length) (c2 := cap1) (i : Int) (d : Int) (by omega) (by omega)
  rw [decide_eq_true hl] at hb
  have HBy : Hid (Calls Try.prog 12 #[.slice a0 s.length cap0, .slice b0 t.length cap1, .int .i64 (i : Int), .int .i64 (d : Int)] w fun e w' => e = .returned (.bool true) ∧ w = w') := hb
  clear hb hmod hs ht
  go_enter Try.func4, Try.ntmps4
  go_wp2_with (first | (go_at_call 12; refine HBy.out.mono ?_; rintro e w' ⟨rfl, rfl⟩))
  refine (zz_clone HS.out hls).mono ?_
  rintro e w1 ⟨a, rfl, ha, hb⟩
  have HTp1 : Hid (Tm w1 a s) := ha
  have HT1 : Hid (Src w1 b0 cap1 t) := HT.out.kept hb
  have HB1 : Hid (Below w.heap.size w w1) := hb
  clear ha hb
  go_wp2_with fail
  refine (zz_clone HT1.out hlt).mono ?_
  rintro e w2 ⟨b, rfl, ha, hb⟩
  have HTt2 : Hid (Tm w2 b t) := ha
  have HTp2 : Hid (Tm w2 a s) := HTp1.out.kept hb
  have HB2 : Hid (Below w.heap.size w w2) := HB1.out.trans (hb.mono HB1.out.size)
  clear ha hb HTp1
  go_wp2_with fail
  refine (zz_clone HTt2.out.src hlt).mono ?_
  rintro e w3 ⟨c1, rfl, ht, hb⟩
  have HC1 : Hid (Tm w3 c1 (t)) := ht
  have HTt3 : Hid (Tm w3 b t) := HTt2.out.kept hb
  have HTp3 : Hid (Tm w3 a s) := HTp2.out.kept hb
  have HB3 : Hid (Below w.heap.size w w3) := HB2.out.trans (hb.mono HB2.out.size)
  clear ht hb HTt2 HTp2
  go_wp2_with fail
  refine (zz_new (i := i) (d := d) HC1.out hlt hi hd).mono ?_
  rintro e w4 ⟨rfl, hst, hb⟩
  have HS1 : Hid (St w4 w3.heap.size c1 (t) (i) d) := hst
  have HXt1 : Hid (Tx w4 w3.heap.size b t) := HTt3.out.tx hb
  have HXp1 : Hid (Tx w4 w3.heap.size a s) := HTp3.out.tx hb
  have HB4 : Hid (Below w.heap.size w w4) := HB3.out.trans (hb.mono HB3.out.size)
  have HX1 : Hid (w.heap.size ≤ w3.heap.size) := HB3.out.size
  clear hst hb HTt3 HTp3 HC1
  generalize w3.heap.size = X1 at *
  go_wp2_with fail
  refine (value_new HS1.out hd).mono ?_
  rintro e w5 ⟨b1, j1, e1, rfl, hst, hg, hh, hij1⟩
  have HS1' : Hid (St w5 X1 c1 (t) j1 (d + e1)) := hst
  have HTt5 : Hid (Tm w5 b t) := (HXt1.out.kept hg).tm
  have HTp5 : Hid (Tm w5 a s) := (HXp1.out.kept hg).tm
  have HB5 : Hid (Below w.heap.size w w5) := HB4.out.grown hg HB4.out.size (fun k hk => by cases hk; exact HX1.out)
  have HH1 : Hid (Halts (t) d (0, i, []) (b1, j1, e1)) := hh
  have hpos1 := hst.pos
  clear hst hg hh HXt1 HXp1 HS1
  obtain ⟨q, hq, hql⟩ : ∃ q : List UInt8, q = t.take j1 ∧ q.length = j1 := ⟨_, rfl, by simp; omega⟩
  subst hql
  have HQ : Hid (q = t.take q.length) := hq
  clear hq
  go_wp2_with (first | (go_at_call 9; refine (zz_pos HS1'.out).mono ?_; rintro e w' ⟨rfl, rfl⟩) | (go_at_call 10; refine (zz_depth HS1'.out).mono ?_; rintro e w' ⟨rfl, rfl⟩))
  clear HS1'
  have hlq : q.length ≤ 1048576 := by omega
  have HSq : Hid (Src w5 b t.length q) := (by rw [HQ.out]; exact HTt5.out.cut _ hpos1 : Src w5 b t.length q)
  refine (zz_clone HSq.out hlq).mono ?_
  rintro e w6 ⟨c2, rfl, ht, hb⟩
  have HC2 : Hid (Tm w6 c2 (q)) := ht
  have HTt6 : Hid (Tm w6 b t) := HTt5.out.kept hb
  have HTp6 : Hid (Tm w6 a s) := HTp5.out.kept hb
  have HB6 : Hid (Below w.heap.size w w6) := HB5.out.trans (hb.mono HB5.out.size)
  clear ht hb HTt5 HTp5
  go_wp2_with fail
  refine (zz_new (i := i) (d := d) HC2.out hlq hij1 hd).mono ?_
  rintro e w7 ⟨rfl, hst, hb⟩
  have HS2 : Hid (St w7 w6.heap.size c2 (q) (i) d) := hst
  have HXt2 : Hid (Tx w7 w6.heap.size b t) := HTt6.out.tx hb
  have HXp2 : Hid (Tx w7 w6.heap.size a s) := HTp6.out.tx hb
  have HB7 : Hid (Below w.heap.size w w7) := HB6.out.trans (hb.mono HB6.out.size)
  have HX2 : Hid (w.heap.size ≤ w6.heap.size) := HB6.out.size
  clear hst hb HTt6 HTp6 HC2
  generalize w6.heap.size = X2 at *
  go_wp2_with fail
  refine (value_new HS2.out hd).mono ?_
  rintro e w8 ⟨b2, j2, e2, rfl, hst, hg, hh, hij2⟩
  have HS2' : Hid (St w8 X2 c2 (q) j2 (d + e2)) := hst
  have HTt8 : Hid (Tm w8 b t) := (HXt2.out.kept hg).tm
  have HTp8 : Hid (Tm w8 a s) := (HXp2.out.kept hg).tm
  have HB8 : Hid (Below w.heap.size w w8) := HB7.out.grown hg HB7.out.size (fun k hk => by cases hk; exact HX2.out)
  have HH2 : Hid (Halts (q) d (0, i, []) (b2, j2, e2)) := hh
  have hpos2 := hst.pos
  clear hst hg hh HXt2 HXp2 HS2
  have heq := HH2.out.unique (by have := HH1.out.cut; rwa [← HQ.out] at this)
  simp only [Prod.mk.injEq] at heq
  obtain ⟨rfl, rfl, rfl⟩ := heq
  clear HH2
  go_wp2_with (first | (go_at_call 9; refine (zz_pos HS2'.out).mono ?_; rintro e w' ⟨rfl, rfl⟩) | (go_at_call 10; refine (zz_depth HS2'.out).mono ?_; rintro e w' ⟨rfl, rfl⟩))
  clear HS2'
  refine (zz_join HTp8.out HTt8.out hl).mono ?_
  rintro e w9 ⟨c3, rfl, ht, hb⟩
  obtain ⟨u, hu, hul⟩ : ∃ u : List UInt8, s ++ t = u ∧ u.length = s.length + t.length := ⟨_, rfl, List.length_append⟩
  rw [hu] at ht ⊢
  have HU : Hid (s ++ t = u) := hu
  have HUL : Hid (u.length = s.length + t.length) := hul
  clear hu hul
  have HC3 : Hid (Tm w9 c3 (u)) := ht
  have HTt9 : Hid (Tm w9 b t) := HTt8.out.kept hb
  have HTp9 : Hid (Tm w9 a s) := HTp8.out.kept hb
  have HB9 : Hid (Below w.heap.size w w9) := HB8.out.trans (hb.mono HB8.out.size)
  clear ht hb HTt8 HTp8
  go_wp2_with fail
  refine (show Calls Try.prog 7 #[.slice c3 u.length u.length, .int .i64 ((s.length : Int) + (i : Int)), .int .i64 (d : Int)] w9 _ from by rw [← Int.natCast_add]; exact zz_new (i := s.length + i) (d := d) HC3.out (by have := HUL.out; omega) (by have := HUL.out; omega) hd).mono ?_
  rintro e w10 ⟨rfl, hst, hb⟩
  have HS3 : Hid (St w10 w9.heap.size c3 (u) (s.length + i) d) := hst
  have HXt3 : Hid (Tx w10 w9.heap.size b t) := HTt9.out.tx hb
  have HXp3 : Hid (Tx w10 w9.heap.size a s) := HTp9.out.tx hb
  have HB10 : Hid (Below w.heap.size w w10) := HB9.out.trans (hb.mono HB9.out.size)
  have HX3 : Hid (w.heap.size ≤ w9.heap.size) := HB9.out.size
  clear hst hb HTt9 HTp9 HC3
  generalize w9.heap.size = X3 at *
  go_wp2_with fail
  refine (value_new HS3.out hd).mono ?_
  rintro e w11 ⟨b3, j3, e3, rfl, hst, hg, hh, hij3⟩
  have HS3' : Hid (St w11 X3 c3 (u) j3 (d + e3)) := hst
  have HTt11 : Hid (Tm w11 b t) := (HXt3.out.kept hg).tm
  have HTp11 : Hid (Tm w11 a s) := (HXp3.out.kept hg).tm
  have HB11 : Hid (Below w.heap.size w w11) := HB10.out.grown hg HB10.out.size (fun k hk => by cases hk; exact HX3.out)
  have HH3 : Hid (Halts (u) d (0, s.length + i, []) (b3, j3, e3)) := hh
  have hpos3 := hst.pos
  clear hst hg hh HXt3 HXp3 HS3
  have heq := HH3.out.unique (by have := HH1.out.shift s; rwa [HU.out] at this)
  simp only [Prod.mk.injEq] at heq
  obtain ⟨rfl, rfl, rfl⟩ := heq
  clear HH3
  go_wp2_with (first | (go_at_call 9; refine (zz_pos HS3'.out).mono ?_; rintro e w' ⟨rfl, rfl⟩) | (go_at_call 10; refine (zz_depth HS3'.out).mono ?_; rintro e w' ⟨rfl, rfl⟩))
  clear HS3'
  refine (HMod.out w11 b t i d HTt11.out hlt hi hd).mono ?_
  rintro e w12 ⟨ok, p, e2, rfl, hh2, hb5⟩
  have heq := HH1.out.unique hh2
  simp only [Prod.mk.injEq] at heq
  obtain ⟨rfl, rfl, rfl⟩ := heq
  have HB12 : Hid (Below w.heap.size w w12) := HB11.out.trans (hb5.mono HB11.out.size)
  clear hh2 hb5
  cases b3
  · go_wp2
    go_ret
    exact ⟨by simp, HB12.out⟩
  · go_wp2
    go_ret
    exact ⟨by simp, HB12.out⟩

set_option maxRecDepth 10000 in
set_option maxHeartbeats 800000 in
theorem law_span (hmod : Mod) (a0 b0 : Option Addr) (cap0 cap1 : Nat) (s t : List UInt8) (x y : Int) (w : World) (hs : Src w a0 cap0 s) (ht : Src w b0 cap1 t) (hn : s.length ≤ 9223372036854775807) (hn2 : t.length ≤ 9223372036854775807) (hx1 : -9223372036854775808 ≤ x) (hx2 : x ≤ 9223372036854775807) (hy1 : -9223372036854775808 ≤ y) (hy2 : y ≤ 9223372036854775807) :
    Calls Try.prog 4 #[.slice a0 s.length cap0, .slice b0 t.length cap1, .int .i64 x, .int .i64 y] w fun e w' => e = .returned (.bool true) ∧ Below w.heap.size w w' := by
  have hb := zz_bytes2 (w := w) (a := a0) (b := b0) (n := s.length) (c := cap0) (n2 := t.length) (c2 := cap1) x y hn hn2
  by_cases hl : s.length + t.length ≤ 1048576
  · by_cases hxr : 0 ≤ x ∧ x ≤ t.length
    · by_cases hyr : 0 ≤ y ∧ y ≤ 10000
      · obtain ⟨i, rfl⟩ : ∃ i : Nat, x = i := ⟨x.toNat, by omega⟩
        obtain ⟨d, rfl⟩ : ∃ d : Nat, y = d := ⟨y.toNat, by omega⟩
        exact law_span_main hmod a0 b0 cap0 cap1 s t i d w hs ht hl (by omega) (by omega)
      · rw [decide_eq_true hl] at hb
        have HB : Hid (Calls Try.prog 12 #[.slice a0 s.length cap0, .slice b0 t.length cap1, .int .i64 x, .int .i64 y] w fun e w' => e = .returned (.bool true) ∧ w = w') := hb
        clear hb hs ht hmod
        go_enter Try.func4, Try.ntmps4
        go_wp2_with (first | (go_at_call 12; refine HB.out.mono ?_; rintro e w' ⟨rfl, rfl⟩))
        all_goals
          go_ret
          exact ⟨rfl, Below.refl _ _⟩
    · rw [decide_eq_true hl] at hb
      have HB : Hid (Calls Try.prog 12 #[.slice a0 s.length cap0, .slice b0 t.length cap1, .int .i64 x, .int .i64 y] w fun e w' => e = .returned (.bool true) ∧ w = w') := hb
      clear hb hs ht hmod
      go_enter Try.func4, Try.ntmps4
      go_wp2_with (first | (go_at_call 12; refine HB.out.mono ?_; rintro e w' ⟨rfl, rfl⟩))
      all_goals
        go_ret
        exact ⟨rfl, Below.refl _ _⟩
  · rw [decide_eq_false hl] at hb
    have HB : Hid (Calls Try.prog 12 #[.slice a0 s.length cap0, .slice b0 t.length cap1, .int .i64 x, .int .i64 y] w fun e w' => e = .returned (.bool false) ∧ w = w') := hb
    clear hb hs ht hmod
    go_enter Try.func4, Try.ntmps4
    go_wp2_with (first | (go_at_call 12; refine HB.out.mono ?_; rintro e w' ⟨rfl, rfl⟩))
    go_ret
    exact ⟨rfl, Below.refl _ _⟩
end Go.Proofs.Qxb6628866a
