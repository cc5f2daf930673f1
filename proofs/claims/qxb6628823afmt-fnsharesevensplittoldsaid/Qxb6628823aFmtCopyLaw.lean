/- A copy of a slice of bools into a row that was just made. -/
import Derived.Test.Qxb6628823aFmtWalkA
import Derived.Laws.CopyOwn
namespace Go.Proofs.Qxb6628823aFmt
open Go.RowKit

theorem Tryf.info4 : (Tryf.prog.info? 4).map (fun i => (i.zero, i.size, i.bytes)) = some (some (.bool false), 1, 1) := by kernel_rfl
theorem Tryf.size4 : (Tryf.prog.info? 4).map (·.size) = some 1 := by kernel_rfl

/-- The cells of n bools. -/
def bools (B : Nat → Bool) (n : Nat) : Array Value := ((List.range n).map fun i => Value.bool (B i)).toArray

theorem bools_size (B : Nat → Bool) (n : Nat) : (bools B n).size = n := by simp [bools]
theorem bools_at (B : Nat → Bool) (n i : Nat) (h : i < n) : (bools B n)[i]? = some (.bool (B i)) := by
  simp [bools, h]

theorem bools_cell (w : World) (B : Nat → Bool) (n i : Nat) (h : i < n) : (w.alloc (.cells (bools B n) 4)).cell? ⟨w.heap.size, i, none⟩ = some (.bool (B i)) := by
  have hr := World.rowIs_alloc w (bools B n) 4 (fun i => .bool (B i)) (fun i hi => bools_at B n i (by rw [bools_size] at hi; exact hi))
  exact hr.cell (by rw [bools_size]; exact h)

theorem setRow_alloc (w : World) (c d : Array Value) (T : TypeId) : (w.alloc (.cells c T)).setRow w.heap.size d = w.alloc (.cells d T) := by
  have e : (w.heap.push (Obj.cells c T)).modify w.heap.size (fun x => match x with | Obj.cells _ elem frozen => Obj.cells d elem frozen | o => o) = w.heap.push (Obj.cells d T) := by
    apply Array.ext
    · simp
    · intro i h1 h2
      simp at h1
      rw [Array.getElem_modify, Array.getElem_push, Array.getElem_push]
      by_cases hi : i < w.heap.size
      · rw [if_neg (by omega), dif_pos hi, dif_pos hi]
      · rw [if_pos (by omega), dif_neg hi, dif_neg hi]
  show ({ w.alloc (.cells c T) with heap := (w.heap.push (Obj.cells c T)).modify w.heap.size _ } : World) = { w with heap := w.heap.push (Obj.cells d T) }
  rw [← e]
  rfl

theorem cell_lt {w : World} {p : Addr} {v : Value} (h : w.cell? p = some v) : p.block < w.heap.size := by
  rcases Nat.lt_or_ge p.block w.heap.size with h1 | h1
  · exact h1
  · simp [World.cell?, Array.getElem?_eq_none h1] at h

theorem copy_fresh (w : World) (x : Addr) (n cap : Nat) (B : Nat → Bool) (hc : ∀ i, i < n → w.cell? (x.add i) = some (.bool (B i))) :
    (Builtin.copy_ #[22, 22] 3 #[.slice (some ⟨w.heap.size, 0, none⟩) n n, .slice (some x) n cap]).run Tryf.prog (w.alloc (.cells (madeCells #[.bool false] n) 4)) =
      .ok (.int .i64 n) (w.alloc (.cells (bools B n) 4)) := by
  have h := run_copy_row (P := Tryf.prog) (w.alloc (.cells (madeCells #[.bool false] n) 4)) 22 22 3 4 w.heap.size 0 n n x n cap (madeCells #[.bool false] n) 4 ((List.range n).map fun i => Value.bool (B i))
    Tryf.underlying22 Tryf.size4 (Deep.blk_alloc_new _ _) (by simp) (fun j v hj => by
      simp only [List.getElem?_map, Option.map_eq_some_iff] at hj
      obtain ⟨i, hi, rfl⟩ := hj
      obtain ⟨hlt, e⟩ := List.getElem?_eq_some_iff.1 hi
      simp at hlt e
      subst e
      have hb := Below.cell ((Below.refl w.heap.size w).alloc (Nat.le_refl _) (.cells (madeCells #[.bool false] n) 4)) (p := x.add j) (cell_lt (hc j hlt))
      rw [hb]
      exact hc j hlt) (by simp [size_madeCells]) (fun v hv => by simp at hv; obtain ⟨i, _, rfl⟩ := hv; rfl)
  rw [h, setRow_alloc]
  congr 1
  · simp [goInt]
  · congr 2
    have hz : (madeCells #[Value.bool false] n).size = n := size_madeCells _ _
    simp [bools, hz]
end Go.Proofs.Qxb6628823aFmt
