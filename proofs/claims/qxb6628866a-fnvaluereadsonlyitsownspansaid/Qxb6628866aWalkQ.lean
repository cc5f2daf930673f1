/- What came in, as bytes; what Value says of the machine. -/
import Derived.Test.Qxb6628866aWalkI
import Derived.Test.Qxb6628866aWalkP
namespace Go.Proofs.Qxb6628866a
open Go.RowKit

/-- What the shells hand the walk of a slice of bytes that came in. -/
def InRow (w : World) (a : Option Addr) (len cap : Nat) (zs : List Int) : Prop :=
  (a = none ∧ len = 0 ∧ cap = 0 ∧ zs = []) ∨
  ∃ x, a = some x ∧ len ≤ cap ∧ cap ≤ maxLen ∧ zs.length = cap ∧ (∀ i, i < zs.length → w.cell? (x.add i) = some (.int .u8 (zs.getD i 0))) ∧ ∀ n ∈ zs, (Lit.int .u8 n).wf = true

theorem wf_u8 {n : Int} (h : (Lit.int .u8 n).wf = true) : 0 ≤ n ∧ n ≤ 255 := by
  simp [Lit.wf, IntKind.min, IntKind.max, IntKind.signed, IntKind.bits] at h
  omega
theorem wf_i64 {n : Int} (h : (Lit.int .i64 n).wf = true) : -9223372036854775808 ≤ n ∧ n ≤ 9223372036854775807 := by
  simp [Lit.wf, IntKind.min, IntKind.max, IntKind.signed, IntKind.bits] at h
  omega

theorem InRow.src {w : World} {a : Option Addr} {len cap : Nat} {zs : List Int} (h : InRow w a len cap zs) : len ≤ 9223372036854775807 ∧ ∃ t : List UInt8, t.length = len ∧ Src w a cap t := by
  rcases h with ⟨rfl, rfl, rfl, rfl⟩ | ⟨x, rfl, h1, h2, h3, h4, h5⟩
  · exact ⟨by omega, [], rfl, .inl ⟨rfl, rfl, rfl⟩⟩
  · refine ⟨by unfold maxLen at h2; omega, (zs.take len).map (fun z => UInt8.ofNat z.toNat), by simp; omega, .inr ⟨x, rfl, by simp; omega, fun j hj => ?_⟩⟩
    have hj1 : j < len := by simp at hj; omega
    have hj2 : j < zs.length := by omega
    rw [h4 j hj2]
    have hw := wf_u8 (h5 _ (List.getElem_mem hj2))
    simp only [List.getElem_map, List.getElem_take, List.getD_eq_getElem?_getD, List.getElem?_eq_getElem hj2, Option.getD_some]
    generalize zs[j] = z at *
    rw [UInt8.toNat_ofNat']
    congr 2
    omega

/-- With no container open, Value's answer is where the machine halts. -/
theorem VOk.halts {t : List UInt8} {d i j d' : Nat} {b : Bool} (h : VOk t d [] i d b j d') : ∃ e, Halts t d (0, i, []) (b, j, e) ∧ d' = d + e := by
  rcases h with ⟨rfl, rfl, _, hr⟩ | ⟨rfl, _, e, _, rfl, hh⟩
  · exact ⟨0, hr.halts (Halts.now rfl), rfl⟩
  · exact ⟨e, hh, rfl⟩
theorem VOk.ge {t : List UInt8} {d d0 i j d' : Nat} {st : List UInt8} {b : Bool} (h : VOk t d0 st i d b j d') : i ≤ j := by
  rcases h with ⟨_, _, h, _⟩ | ⟨_, h, _⟩ <;> omega
end Go.Proofs.Qxb6628866a
