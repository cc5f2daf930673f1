/- The walk of word. -/
import Derived.Test.Qxb6628866aWalkE
import Derived.Test.Qxb6628866aShelf
import Derived.Lib.ConvBytes
import Derived.Deep.RegionHeld3
import Derived.Deep.RegionWith
import Derived.Deep.DeepFit
import Derived.Deep.DrawnRows
namespace Go.Proofs.Qxb6628866a
open Go.RowKit

attribute [local go_sem ↓] Go.wp_at_zero Go.wp_at_succ

theorem bytesWorld_below (w : World) (s : ByteArray) : Below w.heap.size w (Lib.bytesWorld w 5 s) :=
  ⟨by unfold Lib.bytesWorld World.freeze; split <;> rfl, by unfold Lib.bytesWorld World.freeze; split <;> rfl, by unfold Lib.bytesWorld World.freeze; split <;> rfl, by rw [Lib.bytesWorld_size]; omega, fun k hk => Lib.bytesWorld_at_old w 5 s k hk⟩

def nums (l : List UInt8) : List Int := l.map fun b => (b.toNat : Int)
theorem nums_length (l : List UInt8) : (nums l).length = l.length := by simp [nums]
theorem nums_at (l : List UInt8) (i : Nat) (h : i < l.length) : (nums l).getD i 0 = (l[i].toNat : Int) := by simp [nums, h]
theorem nums_bytes (l : List UInt8) : Lib.bytesOf (nums l) = l := by
  unfold Lib.bytesOf nums
  rw [List.map_map]
  conv => rhs; rw [← List.map_id l]
  apply List.map_congr_left
  intro b _
  simp

set_option maxHeartbeats 1000000 in
theorem word_any {w : World} {X : Nat} {a : Option Addr} {t : List UInt8} {i d : Nat} (l : List UInt8) (h : St w X a t i d) (hi : i < t.length) (hl : l.length ≤ 5) :
    Calls Try.prog 18 #[.pointer (some ⟨X, 0, none⟩), .string ⟨l.toArray⟩] w fun e w' => e = .returned (.bool (l.isPrefixOf (t.drop i))) ∧ St w' X a t (if l.isPrefixOf (t.drop i) = true then i + l.length else i) d ∧ w.grownBy w' (some X) := by
  obtain ⟨T, rfl, hTX, hTl, _⟩ := h.txt.at hi
  have hcv := fun W => Lib.run_convert_string_bytes (P := Try.prog) W 9 22 5 ⟨l.toArray⟩ Try.underlying9 Try.underlying22 Try.underlying5
  have hsz : (⟨l.toArray⟩ : ByteArray).size = l.length := by simp [← ByteArray.size_data]
  rw [hsz] at hcv
  have hXl : X < w.heap.size := by
    have := h.blk
    exact (Array.getElem?_eq_some_iff.1 this).1
  have hb := bytesWorld_below w.drew ⟨l.toArray⟩
  have hb0 : (Lib.bytesWorld w.drew 5 ⟨l.toArray⟩).cell? ⟨X, 0, none⟩ = some (.slice (some ⟨T, 0, none⟩) t.length t.length) := (hb.cell (p := ⟨X, 0, none⟩) hXl).trans h.c0
  have hb1 : (Lib.bytesWorld w.drew 5 ⟨l.toArray⟩).cell? ⟨X, 1, none⟩ = some (.int .i64 (i : Int)) := (hb.cell (p := ⟨X, 1, none⟩) hXl).trans h.c1
  have hbz := Lib.bytesWorld_size w.drew 5 ⟨l.toArray⟩
  have HPF := Try.bytes_HasPrefix T i (t.length - i) (t.length - i) w.heap.size 0 l.length (grownCap w.drew l.length 0 5) (nums (t.drop i)) (nums l) (Lib.bytesWorld w.drew 5 ⟨l.toArray⟩) (by rw [nums_length, List.length_drop]) (nums_length l) (Nat.le_refl _)
    (fun j hj => by
      rw [hb.cell (p := ⟨T, i + j, none⟩) hTl, nums_at _ _ (by rw [List.length_drop]; exact hj), List.getElem_drop]
      exact h.txt.cellAt (by omega))
    (fun j hj => by
      rw [nums_at _ _ hj, Nat.zero_add]
      have h1 := Lib.bytesWorld_cell w.drew 5 ⟨l.toArray⟩ j (by rw [hsz]; exact hj)
      rw [show (w.drew.heap.size) = w.heap.size from rfl] at h1
      rw [h1]
      simp [List.getD, hj])
  rw [nums_bytes, nums_bytes] at HPF
  have HP : Hid (Calls Try.prog 31 #[.slice (some ⟨T, i, none⟩) (t.length - i) (t.length - i), .slice (some ⟨w.heap.size, 0, none⟩) l.length (grownCap w.drew l.length 0 5)] (Lib.bytesWorld w.drew 5 ⟨l.toArray⟩) fun e w' => e = .returned (.bool (l.isPrefixOf (t.drop i))) ∧ w' = Lib.bytesWorld w.drew 5 ⟨l.toArray⟩) := HPF
  have hgr : w.grownBy (Lib.bytesWorld w.drew 5 ⟨l.toArray⟩) (some X) := G.trans (G.drew (G.refl _ _)) (G.below hb)
  have HG : Hid (w.grownBy (Lib.bytesWorld w.drew 5 ⟨l.toArray⟩) (some X)) := hgr
  have HS : Hid (St (Lib.bytesWorld w.drew 5 ⟨l.toArray⟩) X (some ⟨T, 0, none⟩) t i d) := h.kept (hb.block X hXl) hgr
  have g0 := h.c0
  have g1 := h.c1
  have hlen := h.len
  have hi1 : (0 : Int) ≤ (i : Int) := by omega
  have hi2 : (i : Int) ≤ (t.length : Int) := by omega
  have hi3 : ¬ (i : Int) = (t.length : Int) := by omega
  have hi4 : ¬ t.length = i := by omega
  have HLT : Hid (i < t.length) := hi
  have f1 := HS.out.fz 1
  have hpl : l.isPrefixOf (t.drop i) = true → i + l.length ≤ t.length := fun hp => by
    have := (List.isPrefixOf_iff_prefix.1 hp).length_le
    rw [List.length_drop] at this
    omega
  have HPL : Hid (l.isPrefixOf (t.drop i) = true → i + l.length ≤ t.length) := hpl
  clear HPF hb hgr h hpl hTl hTX
  generalize (⟨l.toArray⟩ : ByteArray) = s at *
  generalize l.isPrefixOf (t.drop i) = b at *
  go_enter Try.func18, Try.ntmps18
  go_wp2
  go_region_with (go_at_call 31; refine HP.out.mono ?_; rintro e w' ⟨rfl, rfl⟩)
  all_goals
    cases b
    · go_wp2
      go_ret
      exact ⟨rfl, HS.out, HG.out⟩
    · have hpl := HPL.out rfl
      go_wp2
      go_ret
      refine ⟨rfl, ?_, G.set HG.out _ _⟩
      exact HS.out.moved (i + l.length) hpl
end Go.Proofs.Qxb6628866a
