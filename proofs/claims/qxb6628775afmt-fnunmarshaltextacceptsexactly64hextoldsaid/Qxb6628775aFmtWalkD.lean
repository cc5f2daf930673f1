/- The walk of UnmarshalText. -/
import Derived.Test.Qxb6628775aFmtWalkC
namespace Go.Proofs.Qxb6628775aFmt
open Go.RowKit Go.Extern.Stop Go.Stop Go.Extern

/-- A whole array into the variable that was made last. -/
theorem wpList_store_fresh {P : Program} {ops : Array Oper} {rest : List Oper} {o : Oper} {a : Act} {w : World} {Q : Exit → Act → World → Prop} (hgd : o.guard = none) (ty : TypeId) (x y : Operand) (ho : o.op = .store ty x y)
    (cells old : Array Value) (hx : a.eval x = .pointer (some ⟨w.heap.size, 0, none⟩)) (hy : a.eval y = .agg cells) (hi : (P.info? ty).map (·.size) = some cells.size)
    (hold : old.size = cells.size) (h1 : cells.all (·.oneCell') = true)
    (h : wpList P ops Q rest (a.put o.dst undef) (w.alloc (.cells cells ty))) : wpList P ops Q (o :: rest) a (w.alloc (.cells old ty)) := by
  refine wpList_store_row hgd ty x y ho w.heap.size cells hx hy ty old (heap_alloc_new _ _) hi hold h1 ?_
  rw [World.setRow_alloc_new]
  exact h

theorem size24_of {c : Array Value} (h : c.size = 32) : (Tryf.prog.info? 24).map (·.size) = some c.size := by rw [h]; exact size24
theorem size22_of {c : Array Value} (h : c.size = 32) : (Tryf.prog.info? 22).map (·.size) = some c.size := by rw [h]; exact size22

set_option maxHeartbeats 1000000 in
theorem unmarshal_ok (g : Nat) (old : Array Value) (a : Option Addr) (n cap : Nat) (s : ByteArray) (D : List UInt8) (ev : Value) (w : World) (hs : s.size = 64) (hD : Lib.Hx.decode s.data.toList = (D, .ok)) (hDl : D.length = 32) (hE : w.cell? ⟨0, 0, none⟩ = some ev)
    (hcv : (convert 23 9 (.slice a n cap)).run Tryf.prog w = .ok (.string s) w) (hg : w.heap[g]? = some (.cells old 24 (0, 0))) (ho : old.size = 32) (hgl : g < w.heap.size) :
    Calls Tryf.prog 6 #[.pointer (some ⟨g, 0, none⟩), .slice a n cap] w fun e w' => e = .returned .nilIface ∧ w'.heap[g]? = some (.cells (cellsOf D) 24 (0, 0)) ∧ w.grownBy w' (some g) := by
  have hp := parse_ok s D ev w hs hD hDl hE
  have HG : Hid (w.heap[g]? = some (.cells old 24 (0, 0))) := hg
  have hds : (cellsOf D).size = 32 := by rw [cellsOf_size, hDl]
  have hdo := cellsOf_one D
  generalize cellsOf D = C at *
  clear hD hE hs hg
  go_enter Tryf.func6, Tryf.ntmps6
  go_wp2_with fail
  refine hp.mono ?_
  rintro e w1 ⟨rfl, hb1⟩
  have HB : Hid (Below w.heap.size w w1) := hb1
  have HN : Hid ((w1.alloc (.cells C 24)).heap[w1.heap.size]? = some (.cells C 24 (0, 0))) := heap_alloc_new _ _
  have HG1 : Hid ((w1.alloc (.cells C 24)).heap[g]? = some (.cells old 24 (0, 0))) := by
    show _ = _
    rw [Below.heap_alloc _ _ _ (by have := hb1.size; omega), hb1.block _ hgl]
    exact HG.out
  clear hp hcv hb1
  have hdo' : Hid (C.all (·.oneCell') = true) := hdo
  clear hdo
  go_wp2_with (first
    | (refine wpList_store_fresh rfl 24 (.tmp 5) (.tmp 11) rfl C _ rfl rfl (size24_of hds) (by rw [hds]; rfl) hdo'.out ?_)
    | (refine wpList_load_row rfl 24 (.tmp 5) rfl w1.heap.size rfl 24 C (0, 0) _ HN.out Tryf.underlying24 rfl (size24_of hds) ?_)
    | (refine wpList_store_row rfl 24 (.tmp 18) (.tmp 17) rfl g C rfl rfl 24 old HG1.out (size24_of hds) (by rw [hds, ho]) hdo'.out ?_))
  go_ret
  have hsz := HB.out.size
  refine ⟨rfl, setRow_heap _ _ _ _ _ _ HG1.out, HB.out.os, HB.out.tape, HB.out.output, by simp; omega, fun k hk hne => ?_⟩
  rw [setRow_other _ _ _ _ (by intro e; exact hne (by rw [e])), Below.heap_alloc _ _ _ (by omega), HB.out.block _ hk]

set_option maxHeartbeats 1000000 in
theorem unmarshal_bad (g : Nat) (a : Option Addr) (n cap : Nat) (s : ByteArray) (w : World)
    (hcv : (convert 23 9 (.slice a n cap)).run Tryf.prog w = .ok (.string s) w)
    (hp : Calls Tryf.prog 12 #[.string s] w fun e w' => ∃ p, e = .returned (.tuple #[.agg zero32, .iface 48 (.pointer (some p))]) ∧ Below w.heap.size w w') :
    Calls Tryf.prog 6 #[.pointer (some ⟨g, 0, none⟩), .slice a n cap] w fun e w' => ∃ p, e = .returned (.iface 48 (.pointer (some p))) ∧ Below w.heap.size w w' := by
  have HP := hp
  clear hp
  go_enter Tryf.func6, Tryf.ntmps6
  go_wp2_with fail
  refine HP.mono ?_
  rintro e w1 ⟨p, rfl, hb1⟩
  clear HP hcv
  have HB : Hid (Below w.heap.size w w1) := hb1
  clear hb1
  go_wp2_with (first
    | (refine wpList_store_fresh rfl 24 (.tmp 5) (.tmp 11) rfl zero32 _ rfl rfl size24 rfl zero32_one ?_))
  go_ret
  exact ⟨p, rfl, HB.out.alloc HB.out.size _⟩
end Go.Proofs.Qxb6628775aFmt
