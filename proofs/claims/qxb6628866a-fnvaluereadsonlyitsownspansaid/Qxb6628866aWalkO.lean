/- The walks of zzClone, zzJoin, ZZnewWalk, ZZwalkPos, ZZwalkDepth. -/
import Derived.Test.Qxb6628866aWalkK
import Derived.Deep.RegionHeld3
namespace Go.Proofs.Qxb6628866a
open Go.RowKit

/-- The slice that is to be copied: it is nil, or it leads to the bytes t. -/
def Src (w : World) (a : Option Addr) (cap : Nat) (t : List UInt8) : Prop :=
  (a = none ∧ t = [] ∧ cap = 0) ∨ ∃ x : Addr, a = some x ∧ t.length ≤ cap ∧ ∀ j (h : j < t.length), w.cell? (x.add j) = some (.int .u8 (t[j].toNat : Int))

theorem eq_nil_yes (w : World) : Sem.run Try.prog (binOp .eql 22 (.slice none 0 0) (.slice none 0 0)) w = .ok (.bool true) w := by kernel_rfl
theorem eq_nil_no (x : Addr) (n c : Nat) (w : World) : Sem.run Try.prog (binOp .eql 22 (.slice (some x) n c) (.slice none 0 0)) w = .ok (.bool false) w := by kernel_rfl

theorem infoB : (Try.prog.info? 5).map (fun i => (i.zero, i.size, i.bytes)) = some (some (.int .u8 0), 1, 1) := by kernel_rfl

/-- The copy's row, k bytes on. -/
def rowC (t : List UInt8) (k : Nat) (j : Nat) : Value := if j < k then .int .u8 ((t.getD j 0).toNat : Int) else .int .u8 0

theorem rowC_step {t : List UInt8} {k : Nat} {c : UInt8} (h : t.getD k 0 = c) (j : Nat) : (if j = k then .int .u8 (c.toNat : Int) else rowC t k j) = rowC t (k + 1) j := by
  unfold rowC
  by_cases e : j = k
  · subst e; rw [if_pos rfl, if_pos (by omega), h]
  · rw [if_neg e]
    by_cases e2 : j < k
    · rw [if_pos e2, if_pos (by omega)]
    · rw [if_neg e2, if_neg (by omega)]
theorem rowC_at {t : List UInt8} {j : Nat} (h : j < t.length) : rowC t t.length j = .int .u8 (t[j].toNat : Int) := by
  unfold rowC
  rw [if_pos h, List.getD_eq_getElem?_getD, at_lt h]
  rfl
set_option maxHeartbeats 400000 in
theorem zz_clone {w : World} {a : Option Addr} {cap : Nat} {t : List UInt8} (h : Src w a cap t) (hl : t.length ≤ 1048576) :
    Calls Try.prog 6 #[.slice a t.length cap] w fun e w' => ∃ a', e = .returned (.slice a' t.length t.length) ∧ Tm w' a' t ∧ Below w.heap.size w w' := by
  rcases h with ⟨rfl, rfl, rfl⟩ | ⟨x, rfl, hcap, hcell⟩
  · have hq := eq_nil_yes
    show Calls Try.prog 6 #[.slice none 0 0] w _
    go_enter Try.func6, Try.ntmps6
    go_wp2
    go_ret
    exact ⟨none, rfl, .inl rfl, Below.refl _ _⟩
  · have HC : Hid (∀ j (h : j < t.length), w.cell? (x.add j) = some (.int .u8 (t[j].toNat : Int))) := hcell
    clear hcell
    have hmk := run_make_row' (P := Try.prog) 22 5 (.int .u8 0) 1 Try.underlying22 infoB rfl .i64 .i64 t.length (by omega) (by omega)
    have hq := eq_nil_no x t.length cap
    go_enter Try.func6, Try.ntmps6
    go_wp2
    clear hq hmk
    go_loopw [4] (fun i wr => ∃ k : Nat, k ≤ t.length ∧ i = .int .i64 k ∧ Hid (wr.rowIs w.heap.size 5 t.length (rowC t k)) ∧ Hid (Below w.heap.size w wr)) (fun i _ => t.length - (intOf i).toNat)
    case atStart => exact ⟨0, Nat.zero_le _, rfl, (World.rowIs_made _ _ _ _).congr (fun j _ => by simp [rowC]), (Below.refl _ _).alloc (Nat.le_refl _) _⟩
    case round =>
      obtain ⟨k, hk, rfl, hrow, hbel⟩ := hrel
      by_cases hlt : k < t.length
      · have hcell : wr.cell? (x.add k) = some (.int .u8 (t[k].toNat : Int)) := (hbel.out.cell (p := x.add k) (World.block_lt_of_cell? _ _ (HC.out k hlt))).trans (HC.out k hlt)
        have hf1 : wr.frozen? ⟨w.heap.size, k, none⟩ = false := hrow.out.frozen _
        have hc1 : wr.cell? ⟨w.heap.size, k, none⟩ = some (rowC t k k) := hrow.out.cell hlt
        have HG : Hid (t.getD k 0 = t[k]) := by show _ = _; rw [List.getD_eq_getElem?_getD, at_lt hlt]; rfl
        generalize t[k] = c at *
        go_wp2
        go_roundw
        case rel => exact ⟨k + 1, by omega, by go_num, (hrow.out.set k _).congr (fun j _ => rowC_step HG.out j), hbel.out.setCell (Nat.le_refl _) _⟩
        case measure => simp [intOf]; omega
      · have hke : k = t.length := by omega
        subst hke
        go_wp2
        go_ret
        exact ⟨some ⟨w.heap.size, 0, none⟩, rfl, .inr ⟨w.heap.size, rfl, hrow.out.lt, fun j hj => (hrow.out.cell hj).trans (by rw [rowC_at hj])⟩, hbel.out⟩
end Go.Proofs.Qxb6628866a
