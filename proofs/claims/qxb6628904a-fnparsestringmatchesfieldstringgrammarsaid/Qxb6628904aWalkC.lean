/- The walk of FnParseStringMatchesFieldStringGrammar. -/
import Derived.Test.Qxb6628904aWalkB
namespace Go.Proofs.Qxb6628904a
open Go.RowKit

theorem zz_bytes {w : World} (S : ByteArray) (hS : S.size ≤ 9223372036854775807) :
    Calls Try.prog 5 #[.string S] w fun e w' => e = .returned (.bool (decide (S.size ≤ 1048576))) ∧ w = w' := by
  by_cases h : S.size ≤ 1048576
  · rw [decide_eq_true h]
    go_enter Try.func5, Try.ntmps5
    go_wp2
    go_ret
    exact ⟨rfl, rfl⟩
  · rw [decide_eq_false h]
    go_enter Try.func5, Try.ntmps5
    go_wp2
    go_ret
    exact ⟨rfl, rfl⟩

set_option maxHeartbeats 400000 in
theorem law_grammar {w : World} (S : ByteArray) (hS : S.size ≤ 9223372036854775807) :
    Calls Try.prog 3 #[.string S] w fun e w' => e = .returned (.bool true) ∧ Below w.heap.size w w' := by
  have hb := zz_bytes (w := w) S hS
  by_cases hl : S.size ≤ 1048576
  · rw [decide_eq_true hl] at hb
    have HB : Hid (Calls Try.prog 5 #[.string S] w fun e w' => e = .returned (.bool true) ∧ w = w') := hb
    clear hb
    go_enter Try.func3, Try.ntmps3
    go_wp2_with (first | (go_at_call 5; refine HB.out.mono ?_; rintro e w' ⟨rfl, rfl⟩))
    refine (zz_parse S (by omega)).mono ?_
    rintro e w1 ⟨hb1, ⟨v, hv, rfl⟩ | ⟨hv, T, u, rfl⟩⟩
    · go_wp2_with fail
      refine (zz_model S (by omega)).mono ?_
      rintro e w2 ⟨hb2, ⟨v2, hv2, rfl⟩ | ⟨hv2, rfl⟩⟩
      · obtain rfl : v = v2 := Option.some.inj (hv.symm.trans hv2)
        have HB2 : Hid (Below w.heap.size w w2) := hb1.trans (hb2.mono hb1.size)
        clear hb1 hb2 hv hv2
        go_wp2
        go_ret
        exact ⟨by simp, HB2.out⟩
      · rw [hv] at hv2; cases hv2
    · go_wp2_with fail
      refine (zz_model S (by omega)).mono ?_
      rintro e w2 ⟨hb2, ⟨v2, hv2, rfl⟩ | ⟨hv2, rfl⟩⟩
      · rw [hv] at hv2; cases hv2
      · have HB2 : Hid (Below w.heap.size w w2) := hb1.trans (hb2.mono hb1.size)
        clear hb1 hb2 hv hv2
        go_wp2
        go_ret
        exact ⟨by simp, HB2.out⟩
  · rw [decide_eq_false hl] at hb
    have HB : Hid (Calls Try.prog 5 #[.string S] w fun e w' => e = .returned (.bool false) ∧ w = w') := hb
    clear hb
    go_enter Try.func3, Try.ntmps3
    go_wp2_with (first | (go_at_call 5; refine HB.out.mono ?_; rintro e w' ⟨rfl, rfl⟩))
    go_ret
    exact ⟨rfl, Below.refl _ _⟩
end Go.Proofs.Qxb6628904a
