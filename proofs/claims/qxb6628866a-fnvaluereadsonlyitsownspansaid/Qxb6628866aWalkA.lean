/- The walk's state in memory; the walks of the leaf methods. -/
import Derived.Test.Qxb6628866aRows
import Derived.WalkKit
import Derived.WalkSpells
import Derived.WalkLawsBesides
import Derived.Deep.OwnRows
import Derived.Deep.QuietTactic
import Derived.BigQuiet
import Derived.Defers
import Derived.Test.Qxb6628866aPlain
namespace Go.Proofs.Qxb6628866a
open Go.RowKit

/-- The bytes t lie where the slice value leads, in another block than X. -/
def Tx (w : World) (X : Nat) (a : Option Addr) (t : List UInt8) : Prop :=
  t = [] ∨ ∃ T, a = some ⟨T, 0, none⟩ ∧ T ≠ X ∧ T < w.heap.size ∧ ∀ j (h : j < t.length), w.cell? ⟨T, j, none⟩ = some (.int .u8 (t[j].toNat : Int))

/-- Block X is a walk through t that stands at i, inside d containers. -/
structure St (w : World) (X : Nat) (a : Option Addr) (t : List UInt8) (i d : Nat) : Prop where
  blk : w.heap[X]? = some (.cells #[.slice a t.length t.length, .int .i64 (i : Int), .int .i64 (d : Int)] 34 (0, 0))
  txt : Tx w X a t
  len : t.length ≤ 1048576
  pos : i ≤ t.length
  dep : d ≤ 10001

theorem Tx.at {w : World} {X : Nat} {a : Option Addr} {t : List UInt8} (h : Tx w X a t) {i : Nat} (hi : i < t.length) :
    ∃ T, a = some ⟨T, 0, none⟩ ∧ T ≠ X ∧ T < w.heap.size ∧ w.cell? ⟨T, i, none⟩ = some (.int .u8 (t[i].toNat : Int)) := by
  rcases h with rfl | ⟨T, e, h1, h2, h3⟩
  · simp at hi
  · exact ⟨T, e, h1, h2, h3 i hi⟩

theorem Tx.kept {w w' : World} {X : Nat} {a : Option Addr} {t : List UInt8} (h : Tx w X a t) (g : w.grownBy w' (some X)) : Tx w' X a t := by
  rcases h with rfl | ⟨T, e, h1, h2, h3⟩
  · exact .inl rfl
  · refine .inr ⟨T, e, h1, Nat.lt_of_lt_of_le h2 g.size, fun j hj => ?_⟩
    rw [World.cell?_of_block (w := w) (g.block T h2 (by simpa using h1))]
    exact h3 j hj

theorem St.c0 {w : World} {X : Nat} {a : Option Addr} {t : List UInt8} {i d : Nat} (h : St w X a t i d) : w.cell? ⟨X, 0, none⟩ = some (.slice a t.length t.length) := by rw [cell_of_row _ _ 0 _ _ _ h.blk]; rfl
theorem St.c1 {w : World} {X : Nat} {a : Option Addr} {t : List UInt8} {i d : Nat} (h : St w X a t i d) : w.cell? ⟨X, 1, none⟩ = some (.int .i64 (i : Int)) := by rw [cell_of_row _ _ 1 _ _ _ h.blk]; rfl
theorem St.c2 {w : World} {X : Nat} {a : Option Addr} {t : List UInt8} {i d : Nat} (h : St w X a t i d) : w.cell? ⟨X, 2, none⟩ = some (.int .i64 (d : Int)) := by rw [cell_of_row _ _ 2 _ _ _ h.blk]; rfl
theorem St.fz {w : World} {X : Nat} {a : Option Addr} {t : List UInt8} {i d : Nat} (h : St w X a t i d) (k : Nat) : w.frozen? ⟨X, k, none⟩ = false := frozen_of_row _ _ k _ _ h.blk

/-! 'grownBy': new blocks, and writes to block X alone -/
theorem G.refl (w : World) (r : Option Nat) : w.grownBy w r := ⟨rfl, rfl, rfl, Nat.le_refl _, fun _ _ _ => rfl⟩
theorem G.trans {a b c : World} {r : Option Nat} (h : a.grownBy b r) (k : b.grownBy c r) : a.grownBy c r :=
  ⟨k.os.trans h.os, k.tape.trans h.tape, k.output.trans h.output, Nat.le_trans h.size k.size, fun i hi hn => (k.block i (Nat.lt_of_lt_of_le hi h.size) hn).trans (h.block i hi hn)⟩
theorem G.drewN {a b : World} {r : Option Nat} (h : a.grownBy b r) (n : Nat) : a.grownBy (b.drewN n) r := ⟨h.os, h.tape, h.output, h.size, h.block⟩
theorem G.drew {a b : World} {r : Option Nat} (h : a.grownBy b r) : a.grownBy b.drew r := ⟨h.os, h.tape, h.output, h.size, h.block⟩
theorem G.alloc {a b : World} {r : Option Nat} (h : a.grownBy b r) (o : Obj) : a.grownBy (b.alloc o) r :=
  G.trans h ⟨rfl, rfl, rfl, by simp, fun k hk _ => Below.heap_alloc _ _ _ hk⟩
theorem G.set {a b : World} {X : Nat} (h : a.grownBy b (some X)) (k : Nat) (v : Value) : a.grownBy (b.setCell ⟨X, k, none⟩ v) (some X) :=
  G.trans h ⟨rfl, rfl, rfl, by simp [World.setCell], fun i _ hn => heap_setCell_other _ _ _ _ (by simpa using hn)⟩
theorem G.below {a b : World} {r : Option Nat} (h : Below a.heap.size a b) : a.grownBy b r := ⟨h.os, h.tape, h.output, h.size, fun k hk _ => h.block k hk⟩

theorem St.kept {w w' : World} {X : Nat} {a : Option Addr} {t : List UInt8} {i d : Nat} (h : St w X a t i d) (e : w'.heap[X]? = w.heap[X]?) (g : w.grownBy w' (some X)) : St w' X a t i d :=
  ⟨e.trans h.blk, h.txt.kept g, h.len, h.pos, h.dep⟩
theorem St.moved {w : World} {X : Nat} {a : Option Addr} {t : List UInt8} {i d : Nat} (h : St w X a t i d) (i' : Nat) (hi : i' ≤ t.length) : St (w.setCell ⟨X, 1, none⟩ (.int .i64 (i' : Int))) X a t i' d :=
  ⟨by rw [heap_setCell_same _ _ _ _ _ _ h.blk]; rfl, h.txt.kept (G.set (G.refl _ _) _ _), h.len, hi, h.dep⟩
theorem St.sunk {w : World} {X : Nat} {a : Option Addr} {t : List UInt8} {i d : Nat} (h : St w X a t i d) (d' : Nat) (hd : d' ≤ 10001) : St (w.setCell ⟨X, 2, none⟩ (.int .i64 (d' : Int))) X a t i d' :=
  ⟨by rw [heap_setCell_same _ _ _ _ _ _ h.blk]; rfl, h.txt.kept (G.set (G.refl _ _) _ _), h.len, h.pos, hd⟩
theorem St.drewN {w : World} {X : Nat} {a : Option Addr} {t : List UInt8} {i d : Nat} (h : St w X a t i d) (n : Nat) : St (w.drewN n) X a t i d := h.kept rfl (G.drewN (G.refl _ _) n)

set_option maxHeartbeats 400000 in
theorem next_yes {w : World} {X : Nat} {a : Option Addr} {t : List UInt8} {i d : Nat} (v : Int) (ch : UInt8) (hv : v = (ch.toNat : Int)) (h : St w X a t i d) (hc : t[i]? = some ch) :
    Calls Try.prog 25 #[.pointer (some ⟨X, 0, none⟩), .int .u8 v] w fun e w' => e = .returned (.bool true) ∧ St w' X a t (i + 1) d ∧ w.grownBy w' (some X) := by
  obtain ⟨hi, hc'⟩ := List.getElem?_eq_some_iff.1 hc
  obtain ⟨T, rfl, hT, _, hcell⟩ := h.txt.at hi
  rw [hc', ← hv] at hcell
  have g0 := h.c0
  have g1 := h.c1
  have f1 := h.fz 1
  have hl := h.len
  have HS : Hid (St w X (some ⟨T, 0, none⟩) t i d) := h
  clear h hc hc' hv
  have hlt : decide ((i : Int) < (t.length : Int)) = true := by simp; omega
  go_enter Try.func25, Try.ntmps25
  go_wp2
  go_quiet (fail)
  go_wp2
  go_ret
  exact ⟨rfl, (HS.out.moved (i + 1) (by omega)).drewN _, G.drewN (G.set (G.refl _ _) _ _) _⟩

set_option maxHeartbeats 400000 in
theorem next_no {w : World} {X : Nat} {a : Option Addr} {t : List UInt8} {i d : Nat} (v : Int) (ch : UInt8) (hv : v = (ch.toNat : Int)) (h : St w X a t i d) (hc : t[i]? ≠ some ch) :
    Calls Try.prog 25 #[.pointer (some ⟨X, 0, none⟩), .int .u8 v] w fun e w' => e = .returned (.bool false) ∧ St w' X a t i d ∧ w.grownBy w' (some X) := by
  have g0 := h.c0
  have g1 := h.c1
  have hl := h.len
  have HS : Hid (St w X a t i d) := h
  by_cases hi : i < t.length
  · obtain ⟨T, rfl, hT, _, hcell⟩ := h.txt.at hi
    have hne : (((t[i].toNat : Int)) == v) = false := by
      rw [at_lt hi] at hc
      rw [hv]
      simp only [beq_eq_false_iff_ne, ne_eq, Int.natCast_inj]
      intro e
      exact hc (by rw [UInt8.toNat_inj.1 e])
    generalize t[i] = x at *
    clear h hc hv
    have hlt : decide ((i : Int) < (t.length : Int)) = true := by simp; omega
    go_enter Try.func25, Try.ntmps25
    go_wp2
    go_quiet (fail)
    go_wp2
    go_ret
    exact ⟨rfl, HS.out.drewN _, G.drewN (G.refl _ _) _⟩
  · clear h hc hv
    have hlt : decide ((i : Int) < (t.length : Int)) = false := by simp; omega
    go_enter Try.func25, Try.ntmps25
    go_wp2
    go_quiet (fail)
    go_wp2
    go_ret
    exact ⟨rfl, HS.out.drewN _, G.drewN (G.refl _ _) _⟩
end Go.Proofs.Qxb6628866a
