/- The walk of FnValueMatchesPushdownModel. -/
import Derived.Test.Qxb6628866aWalkQ
namespace Go.Proofs.Qxb6628866a
open Go.RowKit

/-- What the model is to answer. -/
def Mod : Prop := ∀ (w : World) (a : Option Addr) (t : List UInt8) (i d0 : Nat), Tm w a t → t.length ≤ 1048576 → i ≤ t.length → d0 ≤ 10000 →
  Calls Try.prog 11 #[.slice a t.length t.length, .int .i64 (i : Int), .int .i64 (d0 : Int)] w fun e w' => ∃ ok p e', e = .returned (.tuple #[.bool ok, .int .i64 ((p : Nat) : Int), .int .i64 ((d0 + e' : Nat) : Int)]) ∧ Halts t d0 (0, i, []) (ok, p, e') ∧ Below w.heap.size w w'

theorem Tm.src {w : World} {a : Option Addr} {t : List UInt8} (h : Tm w a t) : Src w a t.length t := by
  rcases h with rfl | ⟨T, rfl, h2, h3⟩
  · cases a with
    | none => exact .inl ⟨rfl, rfl, rfl⟩
    | some x => exact .inr ⟨x, rfl, Nat.le_refl _, fun j hj => by simp at hj⟩
  · refine .inr ⟨_, rfl, Nat.le_refl _, fun j hj => ?_⟩
    rw [show (⟨T, 0, none⟩ : Addr).add j = ⟨T, j, none⟩ by unfold Addr.add; split <;> simp_all]
    exact h3 j hj
theorem Tx.tm {w : World} {X : Nat} {a : Option Addr} {t : List UInt8} (h : Tx w X a t) : Tm w a t := by
  rcases h with rfl | ⟨T, e, h1, h2, h3⟩
  · exact .inl rfl
  · exact .inr ⟨T, e, h2, h3⟩

/-- One walk: the text is cloned, a walk is laid over the clone, and Value is called: where the machine halts, and nothing that was there is written. -/
theorem value_new {w : World} {X : Nat} {a : Option Addr} {t : List UInt8} {i d : Nat} (h : St w X a t i d) (hd : d ≤ 10000) :
    Calls Try.prog 8 #[.pointer (some ⟨X, 0, none⟩)] w fun e w' => ∃ b j e', e = .returned (.bool b) ∧ St w' X a t j (d + e') ∧ w.grownBy w' (some X) ∧ Halts t d (0, i, []) (b, j, e') ∧ i ≤ j := by
  refine (value_all t _ i (Nat.le_refl _) h.pos w X a d d [] h (by simp) hd).mono ?_
  rintro e w' ⟨b, j, d', rfl, h1, h2, h3⟩
  obtain ⟨e', hh, rfl⟩ := h3.halts
  exact ⟨b, j, e', rfl, h1, h2, hh, h3.ge⟩

set_option maxHeartbeats 800000 in
theorem law_match (hmod : Mod) (a : Option Addr) (cap : Nat) (t : List UInt8) (x y : Int) (w : World) (hs : Src w a cap t) (hn : t.length ≤ 9223372036854775807) (hx1 : -9223372036854775808 ≤ x) (hx2 : x ≤ 9223372036854775807) (hy1 : -9223372036854775808 ≤ y) (hy2 : y ≤ 9223372036854775807) :
    Calls Try.prog 3 #[.slice a t.length cap, .int .i64 x, .int .i64 y] w fun e w' => e = .returned (.bool true) ∧ Below w.heap.size w w' := by
  have HMod : Hid Mod := hmod
  have HS : Hid (Src w a cap t) := hs
  have hb := zz_bytes (w := w) (a := a) (n := t.length) (c := cap) x y hn
  clear hmod hs
  by_cases hl : t.length ≤ 1048576
  · rw [decide_eq_true hl] at hb
    have HB : Hid (Calls Try.prog 5 #[.slice a t.length cap, .int .i64 x, .int .i64 y] w fun e w' => e = .returned (.bool true) ∧ w = w') := hb
    clear hb
    by_cases hxr : 0 ≤ x ∧ x ≤ t.length
    · by_cases hyr : 0 ≤ y ∧ y ≤ 10000
      · obtain ⟨i, rfl⟩ : ∃ i : Nat, x = i := ⟨x.toNat, by omega⟩
        obtain ⟨d, rfl⟩ : ∃ d : Nat, y = d := ⟨y.toNat, by omega⟩
        have hi : i ≤ t.length := by omega
        have hd : d ≤ 10000 := by omega
        clear hxr hyr hx1 hx2 hy1 hy2
        go_enter Try.func3, Try.ntmps3
        go_wp2_with (first | (go_at_call 5; refine HB.out.mono ?_; rintro e w' ⟨rfl, rfl⟩))
        refine (zz_clone HS.out hl).mono ?_
        rintro e w1 ⟨a1, rfl, ht1, hb1⟩
        have HT1 : Hid (Tm w1 a1 t) := ht1
        have HB1 : Hid (Below w.heap.size w w1) := hb1
        clear ht1 hb1
        go_wp2_with fail
        refine (zz_clone HT1.out.src hl).mono ?_
        rintro e w2 ⟨a2, rfl, ht2, hb2⟩
        have HT2 : Hid (Tm w2 a2 t) := ht2
        have HT12 : Hid (Tm w2 a1 t) := HT1.out.kept hb2
        have HB2 : Hid (Below w.heap.size w w2) := HB1.out.trans (hb2.mono HB1.out.size)
        clear ht2 hb2
        go_wp2_with fail
        refine (zz_new HT2.out hl hi hd).mono ?_
        rintro e w3 ⟨rfl, hst3, hb3⟩
        have HS3 : Hid (St w3 w2.heap.size a2 t i d) := hst3
        have HT13 : Hid (Tx w3 w2.heap.size a1 t) := HT12.out.tx hb3
        have HB3 : Hid (Below w.heap.size w w3) := HB2.out.trans (hb3.mono HB2.out.size)
        have HX : Hid (w.heap.size ≤ w2.heap.size) := HB2.out.size
        clear hst3 hb3
        generalize w2.heap.size = X at *
        go_wp2_with fail
        refine (value_new HS3.out hd).mono ?_
        rintro e w4 ⟨b, j, e', rfl, hst4, hg4, hh, hij⟩
        have HS4 : Hid (St w4 X a2 t j (d + e')) := hst4
        have HT14 : Hid (Tm w4 a1 t) := (HT13.out.kept hg4).tm
        have HB4 : Hid (Below w.heap.size w w4) := HB3.out.grown hg4 HB3.out.size (fun k hk => by cases hk; exact HX.out)
        have HH : Hid (Halts t d (0, i, []) (b, j, e')) := hh
        clear hst4 hg4 hh
        go_wp2_with (first | (go_at_call 9; refine (zz_pos HS4.out).mono ?_; rintro e w' ⟨rfl, rfl⟩) | (go_at_call 10; refine (zz_depth HS4.out).mono ?_; rintro e w' ⟨rfl, rfl⟩))
        refine (HMod.out w4 a1 t i d HT14.out hl hi hd).mono ?_
        rintro e w5 ⟨ok, p, e2, rfl, hh2, hb5⟩
        have heq := HH.out.unique hh2
        simp only [Prod.mk.injEq] at heq
        obtain ⟨rfl, rfl, rfl⟩ := heq
        have HB5 : Hid (Below w.heap.size w w5) := HB4.out.trans (hb5.mono HB4.out.size)
        clear hh2 hb5
        go_wp2
        go_ret
        exact ⟨by simp, HB5.out⟩
      · go_enter Try.func3, Try.ntmps3
        go_wp2_with (first | (go_at_call 5; refine HB.out.mono ?_; rintro e w' ⟨rfl, rfl⟩))
        all_goals
          go_ret
          exact ⟨rfl, Below.refl _ _⟩
    · go_enter Try.func3, Try.ntmps3
      go_wp2_with (first | (go_at_call 5; refine HB.out.mono ?_; rintro e w' ⟨rfl, rfl⟩))
      all_goals
        go_ret
        exact ⟨rfl, Below.refl _ _⟩
  · rw [decide_eq_false hl] at hb
    have HB : Hid (Calls Try.prog 5 #[.slice a t.length cap, .int .i64 x, .int .i64 y] w fun e w' => e = .returned (.bool false) ∧ w = w') := hb
    clear hb
    go_enter Try.func3, Try.ntmps3
    go_wp2_with (first | (go_at_call 5; refine HB.out.mono ?_; rintro e w' ⟨rfl, rfl⟩))
    go_ret
    exact ⟨rfl, Below.refl _ _⟩
end Go.Proofs.Qxb6628866a
