/- The walk of parseString. -/
import Derived.Test.Qxb6628904aRows
import Derived.Test.Qxb6628904aShelf
import Derived.Test.Qxb6628904aPlain
import Derived.WalkKit
import Derived.WalkSpells
import Derived.WalkLawsBesides
import Derived.Deep.OwnRows
import Derived.Deep.QuietTactic
import Derived.BigQuiet
import Derived.WalkSmall
namespace Go.Proofs.Qxb6628904a
open Go.RowKit

/-- The string's bytes. -/
def bl (S : ByteArray) : List UInt8 := S.data.toList
theorem bl_len (S : ByteArray) : (bl S).length = S.size := rfl

/-- What parseString answers: what is read of the bytes behind the first, or an error. -/
def PPost (w : World) (S : ByteArray) (e : Ending) (w' : World) : Prop :=
  Below w.heap.size w w' ∧ ((∃ v, pr ((bl S).drop 1) = some v ∧ e = .returned (.tuple #[.string ⟨v.toArray⟩, .nilIface])) ∨
    (pr ((bl S).drop 1) = none ∧ ∃ T u, e = .returned (.tuple #[.string ⟨#[]⟩, .iface T u])))

theorem PPost.yes {w w' : World} {S : ByteArray} {e : Ending} {v : List UInt8} (hb : Below w.heap.size w w') (h : pr ((bl S).drop 1) = some v) (he : e = .returned (.tuple #[.string ⟨v.toArray⟩, .nilIface])) : PPost w S e w' := ⟨hb, .inl ⟨v, h, he⟩⟩
theorem PPost.no {w w' : World} {S : ByteArray} {e : Ending} {T : TypeId} {u : Value} (hb : Below w.heap.size w w') (h : pr ((bl S).drop 1) = none) (he : e = .returned (.tuple #[.string ⟨#[]⟩, .iface T u])) : PPost w S e w' := ⟨hb, .inr ⟨h, T, u, he⟩⟩

theorem new_any {w : World} (s : ByteArray) :
    Calls Try.prog 11 #[.string s] w fun e w' => ∃ T u, e = .returned (.iface T u) ∧ Below w.heap.size w w' := by
  go_enter Try.func11, Try.ntmps11
  go_wp2
  go_ret
  exact ⟨_, _, rfl, (Below.refl _ _).alloc (Nat.le_refl _) _⟩

/-- The loop: what the builder holds, and what is still to be read. -/
structure LS (w wr : World) (S : ByteArray) (i : Nat) (acc : List UInt8) : Prop where
  own : Lib.IsBuilder 34 5 w.heap.size w.heap.size (Lib.byteCells acc) wr
  bel : Below w.heap.size w wr
  re : (PS (bl S) i).map (acc ++ ·) = PS (bl S) 1
  len : acc.length ≤ i
theorem LS.one {w wr w' : World} {S : ByteArray} {i j : Nat} {acc : List UInt8} {c : UInt8} (h : LS w wr S i acc) (hs : PS (bl S) i = (PS (bl S) j).map (c :: ·)) (hj : i < j)
    (hb : Lib.BuilderAt 34 5 w.heap.size w.heap.size (.pointer (some ⟨w.heap.size, 0, none⟩)) (Lib.byteCells acc ++ [.int .u8 (c.toNat : Int)]) w') (hw : Below w.heap.size wr w') : LS w w' S j (acc ++ [c]) := by
  refine ⟨.inr ?_, h.bel.trans hw, ?_, by have := h.len; simp; omega⟩
  · rw [Lib.byteCells_append]
    exact hb
  · rw [← h.re, hs, map_acc]
theorem LS.none {w wr : World} {S : ByteArray} {i : Nat} {acc : List UInt8} (h : LS w wr S i acc) (hs : PS (bl S) i = none) : pr ((bl S).drop 1) = none := by
  have := h.re
  rw [hs] at this
  exact this.symm
theorem LS.done {w wr : World} {S : ByteArray} {i : Nat} {acc : List UInt8} (h : LS w wr S i acc) (hs : PS (bl S) i = some []) : pr ((bl S).drop 1) = some acc := by
  have := h.re
  rw [hs] at this
  simp at this
  exact this.symm
theorem bl_at {S : ByteArray} {i : Nat} (h : i < S.size) : (bl S)[i]'h = S[i] := rfl
theorem u8_is {c : UInt8} (k : Nat) (hk : k < 256) : (((c.toNat : Int)) == (k : Int)) = (c == UInt8.ofNat k) := by
  rw [Bool.eq_iff_iff]
  simp only [beq_iff_eq, Int.natCast_inj]
  constructor
  · intro e
    rw [← e]
    simp
  · intro e
    rw [e, UInt8.toNat_ofNat']
    omega
theorem u8_not {c : UInt8} (k : Nat) (hk : k < 256) : (((c.toNat : Int)) != (k : Int)) = (c != UInt8.ofNat k) := by
  rw [bne, bne, u8_is k hk]

set_option maxRecDepth 10000 in
set_option maxHeartbeats 1000000 in
theorem parse_any {w : World} (S : ByteArray) (hS : S.size ≤ 4194304) :
    Calls Try.prog 10 #[.string S] w (PPost w S) := by
  go_enter Try.func10, Try.ntmps10
  go_wp2
  go_loopw [5] (fun vi wr => ∃ (i : Nat) (acc : List UInt8), 1 ≤ i ∧ i ≤ S.size + 1 ∧ vi = .int .i64 i ∧ Hid (LS w wr S i acc)) (fun vi _ => S.size + 1 - (intOf vi).toNat)
  case atStart =>
    refine ⟨1, [], by omega, by omega, rfl, ⟨.inl ⟨Nat.le_refl _, .slice none 0 0, heap_alloc_new _ _, World.ownsRow_nil _ _ _ _, by simp [Value.ownBlock]⟩, (Below.refl _ _).alloc (Nat.le_refl _) _, ?_, by simp⟩⟩
    cases PS (bl S) 1 <;> simp
  case round =>
    obtain ⟨i, acc, hi1, hi2, rfl, HL⟩ := hrel
    have hbs := HL.out.bel.size
    have hal := HL.out.len
    by_cases hi : i < S.size
    · by_cases h92 : S[i] = 92
      · have e1 : (((S[i].toNat : Int)) == 92) = true := by rw [h92]; rfl
        by_cases hi1' : i + 1 < S.size
        · cases hq : qb S[i + 1]
          · have HN : Hid (pr ((bl S).drop 1) = none) := HL.out.none (PS_bs_bad hi h92 hi1' hq)
            have hq2 : (((S[i + 1].toNat : Int)) != 34) = true ∧ (((S[i + 1].toNat : Int)) != 92) = true := by
              rw [show (34 : Int) = ((34 : Nat) : Int) from rfl, show (92 : Int) = ((92 : Nat) : Int) from rfl, u8_not 34 (by omega), u8_not 92 (by omega)]
              simpa [qb, Bool.or_eq_false_iff] using hq
            obtain ⟨e2, e3⟩ := hq2
            clear hq h92
            go_wp2_with (first | (go_at_call 11; refine (new_any _).mono ?_; rintro e w1 ⟨T, u, rfl, hb1⟩))
            go_ret2
            exact PPost.no (HL.out.bel.trans (hb1.mono hbs)) HN.out rfl
          · have HP : Hid (PS (bl S) i = (PS (bl S) (i + 2)).map (S[i + 1] :: ·)) := PS_bs_ok hi h92 hi1' hq
            have hq2 : (((S[i + 1].toNat : Int)) != 34) = false ∨ ((((S[i + 1].toNat : Int)) != 34) = true ∧ (((S[i + 1].toNat : Int)) != 92) = false) := by
              rw [show (34 : Int) = ((34 : Nat) : Int) from rfl, show (92 : Int) = ((92 : Nat) : Int) from rfl, u8_not 34 (by omega), u8_not 92 (by omega)]
              rcases (by simpa [qb] using hq : S[i + 1] = 34 ∨ S[i + 1] = 92) with h | h <;> rw [h] <;> decide
            clear hq h92
            rcases hq2 with e2 | ⟨e2, e3⟩
            all_goals
              go_wp2_with (first | (go_at_call 12; refine (Try.Builder_WriteByte w.heap.size w.heap.size (Lib.byteCells acc) _ wr HL.out.own (by rw [Lib.byteCells_length]; omega) hbs).mono ?_; rintro e w1 ⟨rfl, hb1, hw1⟩))
              go_roundw
              case rel => exact ⟨i + 2, acc ++ [S[i + 1]], by omega, by omega, by go_num, HL.out.one HP.out (by omega) hb1 hw1⟩
              case measure => simp [intOf]; omega
        · have HN : Hid (pr ((bl S).drop 1) = none) := HL.out.none (PS_bs_end hi h92 hi1')
          clear h92
          go_wp2_with (first | (go_at_call 11; refine (new_any _).mono ?_; rintro e w1 ⟨T, u, rfl, hb1⟩))
          go_ret2
          exact PPost.no (HL.out.bel.trans (hb1.mono hbs)) HN.out rfl
      · have e1 : (((S[i].toNat : Int)) == 92) = false := by rw [show (92 : Int) = ((92 : Nat) : Int) from rfl, u8_is 92 (by omega)]; simpa using h92
        by_cases h34 : S[i] = 34
        · have e2 : (((S[i].toNat : Int)) == 34) = true := by rw [h34]; rfl
          by_cases hi1' : i + 1 < S.size
          · have HN : Hid (pr ((bl S).drop 1) = none) := HL.out.none (PS_q_more hi h34 hi1')
            clear h34 h92
            go_wp2_with (first | (go_at_call 11; refine (new_any _).mono ?_; rintro e w1 ⟨T, u, rfl, hb1⟩))
            go_ret2
            exact PPost.no (HL.out.bel.trans (hb1.mono hbs)) HN.out rfl
          · have HN : Hid (pr ((bl S).drop 1) = some acc) := HL.out.done (PS_q_end hi h34 (show i + 1 = S.size by omega))
            clear h34 h92
            go_wp2_with (first | (go_at_call 13; refine (Try.Builder_String_any w.heap.size w.heap.size acc wr HL.out.own hbs).mono ?_; rintro e w1 ⟨rfl, hw1⟩))
            go_ret2
            exact PPost.yes (HL.out.bel.trans hw1) HN.out rfl
        · have e2 : (((S[i].toNat : Int)) == 34) = false := by rw [show (34 : Int) = ((34 : Nat) : Int) from rfl, u8_is 34 (by omega)]; simpa using h34
          cases hp : pri S[i]
          · have HN : Hid (pr ((bl S).drop 1) = none) := HL.out.none (PS_bad hi h92 h34 hp)
            have hp2 : S[i].toNat < 32 ∨ (¬ S[i].toNat < 32 ∧ 126 < S[i].toNat) := by
              simp [pri] at hp
              omega
            clear h34 h92 hp
            rcases hp2 with e3 | ⟨e3, e4⟩
            all_goals
              go_wp2_with (first | (go_at_call 11; refine (new_any _).mono ?_; rintro e w1 ⟨T, u, rfl, hb1⟩))
              go_ret2
              exact PPost.no (HL.out.bel.trans (hb1.mono hbs)) HN.out rfl
          · have HP : Hid (PS (bl S) i = (PS (bl S) (i + 1)).map (S[i] :: ·)) := PS_ok hi h92 h34 hp
            have hp2 : ¬ S[i].toNat < 32 ∧ ¬ 126 < S[i].toNat := by
              simp [pri] at hp
              omega
            obtain ⟨e3, e4⟩ := hp2
            clear h34 h92 hp
            go_wp2_with (first | (go_at_call 12; refine (Try.Builder_WriteByte w.heap.size w.heap.size (Lib.byteCells acc) _ wr HL.out.own (by rw [Lib.byteCells_length]; omega) hbs).mono ?_; rintro e w1 ⟨rfl, hb1, hw1⟩))
            go_roundw
            case rel => exact ⟨i + 1, acc ++ [S[i]], by omega, by omega, by go_num, HL.out.one HP.out (by omega) hb1 hw1⟩
            case measure => simp [intOf]; omega
    · have HN : Hid (pr ((bl S).drop 1) = none) := HL.out.none (PS_end hi)
      go_wp2_with (first | (go_at_call 11; refine (new_any _).mono ?_; rintro e w1 ⟨T, u, rfl, hb1⟩))
      go_ret2
      exact PPost.no (HL.out.bel.trans (hb1.mono hbs)) HN.out rfl
end Go.Proofs.Qxb6628904a
