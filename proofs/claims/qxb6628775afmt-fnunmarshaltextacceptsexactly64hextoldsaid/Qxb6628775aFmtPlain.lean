/- The plain part: hexadecimal digits, with no Go in sight. -/
import Derived.Shelf.Hex.Decode
namespace Go.Proofs.Qxb6628775aFmt
open Go.Lib

/-- The law's own turn to upper case. -/
def up (c : UInt8) : UInt8 := if 97 ≤ c.toNat ∧ c.toNat ≤ 102 then UInt8.ofNat (c.toNat - 32) else c

set_option maxRecDepth 100000 in
theorem v_digit : ∀ d : Fin 16, Hx.v (Hx.digit d.val) = d.val := by decide +kernel
set_option maxRecDepth 100000 in
theorem v_up_digit : ∀ d : Fin 16, Hx.v (up (Hx.digit d.val)) = d.val := by decide +kernel

theorem join (b : UInt8) : UInt8.ofNat (b.toNat / 16 * 16 + b.toNat % 16) = b := by
  rw [show b.toNat / 16 * 16 + b.toNat % 16 = b.toNat by omega]
  simp

theorem decode_encode_by (f : UInt8 → UInt8) (hf : ∀ d : Fin 16, Hx.v (f (Hx.digit d.val)) = d.val) (l : List UInt8) : Hx.decode ((Hx.encode l).map f) = (l, .ok) := by
  induction l with
  | nil => exact Hx.decode_nil
  | cons b t ih =>
    rw [Hx.encode_cons, List.map_cons, List.map_cons, Hx.decode_two]
    have hb := b.toNat_lt
    have h1 := hf ⟨b.toNat / 16, by omega⟩
    have h2 := hf ⟨b.toNat % 16, by omega⟩
    simp only at h1 h2
    rw [h1, h2, if_neg (by omega), if_neg (by omega), ih, join]

theorem decode_encode (l : List UInt8) : Hx.decode (Hx.encode l) = (l, .ok) := by
  have h := decode_encode_by id v_digit l
  rwa [List.map_id] at h

theorem decode_up (l : List UInt8) : Hx.decode ((Hx.encode l).map up) = (l, .ok) := decode_encode_by up v_up_digit l
end Go.Proofs.Qxb6628775aFmt
