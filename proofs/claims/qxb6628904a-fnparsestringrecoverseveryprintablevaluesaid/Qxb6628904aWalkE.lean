/- The walk of FnParseStringRecoversEveryPrintableValue at every input. -/
import Derived.Test.Qxb6628904aWalkD
namespace Go.Proofs.Qxb6628904a
open Go.RowKit

set_option maxRecDepth 10000 in
set_option maxHeartbeats 800000 in
theorem law_value {w : World} (x : Int) (V T : ByteArray) (hx0 : 0 ≤ x) (hx1 : x ≤ 255) (hV : V.size ≤ 9223372036854775807) (hT : T.size ≤ 9223372036854775807) :
    Calls Try.prog 4 #[.int .u8 x, .string V, .string T] w fun e w' => e = .returned (.bool true) ∧ Below w.heap.size w w' := by
  have hb := zz_bytes3 (w := w) x V T hV hT
  by_cases hl : V.size + T.size ≤ 1048576
  · by_cases h1 : V.size ≤ 262144
    · by_cases h2 : T.size ≤ 262144
      · obtain ⟨f, rfl⟩ : ∃ f : UInt8, x = (f.toNat : Int) := ⟨UInt8.ofNat x.toNat, by rw [UInt8.toNat_ofNat']; omega⟩
        exact law_value_main f V T h1 h2
      · rw [decide_eq_true hl] at hb
        have HB : Hid (Calls Try.prog 8 #[.int .u8 x, .string V, .string T] w fun e w' => e = .returned (.bool true) ∧ w = w') := hb
        clear hb
        go_enter Try.func4, Try.ntmps4
        go_wp2_with (first | (go_at_call 8; refine HB.out.mono ?_; rintro e w' ⟨rfl, rfl⟩))
        go_ret
        exact ⟨rfl, Below.refl _ _⟩
    · rw [decide_eq_true hl] at hb
      have HB : Hid (Calls Try.prog 8 #[.int .u8 x, .string V, .string T] w fun e w' => e = .returned (.bool true) ∧ w = w') := hb
      clear hb
      go_enter Try.func4, Try.ntmps4
      go_wp2_with (first | (go_at_call 8; refine HB.out.mono ?_; rintro e w' ⟨rfl, rfl⟩))
      go_ret
      exact ⟨rfl, Below.refl _ _⟩
  · rw [decide_eq_false hl] at hb
    have HB : Hid (Calls Try.prog 8 #[.int .u8 x, .string V, .string T] w fun e w' => e = .returned (.bool false) ∧ w = w') := hb
    clear hb
    go_enter Try.func4, Try.ntmps4
    go_wp2_with (first | (go_at_call 8; refine HB.out.mono ?_; rintro e w' ⟨rfl, rfl⟩))
    go_ret
    exact ⟨rfl, Below.refl _ _⟩
end Go.Proofs.Qxb6628904a
