/- The walk of FnUnmarshalTextAcceptsExactly64Hex where the text is refused. -/
import Derived.Test.Qxb6628775aFmtWalkF
namespace Go.Proofs.Qxb6628775aFmt
open Go.RowKit Go.Extern.Stop Go.Stop Go.Extern

set_option maxHeartbeats 1000000 in
theorem accepts_long (ls : List UInt8) (a : Option Addr) (n cap : Nat) (w : World) (hls : ls.length = 32) (hn : 1048576 < n) (hnm : n ≤ 9223372036854775807) :
    Calls Tryf.prog 4 #[.agg (cellsOf ls), .slice a n cap] w fun e w' => e = .returned (.bool true) ∧ Below w.heap.size w w' := by
  have hss : (cellsOf ls).size = 32 := by rw [cellsOf_size, hls]
  have Hb0 : Hid ((w.alloc (.cells (cellsOf ls) 22)).heap[w.heap.size]? = some (.cells (cellsOf ls) 22 (0, 0))) := heap_alloc_new _ _
  have hd : ¬ n ≤ 1048576 := by omega
  go_enter Tryf.func4, Tryf.ntmps4
  go_wp2_with (first | (refine wpList_load_row rfl 22 (.tmp 2) rfl w.heap.size rfl 22 (cellsOf ls) (0, 0) _ Hb0.out Tryf.underlying22 rfl (size22_of hss) ?_))
  refine (bytes7 _ a n cap _ hnm).mono ?_
  rintro e w1 ⟨rfl, hb1⟩
  rw [decide_eq_false hd]
  go_wp2
  go_ret
  exact ⟨rfl, ((Below.refl _ _).alloc (Nat.le_refl _) _).trans (hb1.mono (by simp))⟩

set_option maxHeartbeats 1000000 in
/-- The text is refused: the receiver stays. -/
theorem accepts_not (ls : List UInt8) (a : Option Addr) (n cap : Nat) (s : ByteArray) (w : World) (hls : ls.length = 32) (hn : n ≤ 1048576)
    (hcv : ∀ W, Below w.heap.size w W → (convert 23 9 (.slice a n cap)).run Tryf.prog W = .ok (.string s) W)
    (hp : ∀ W, Below w.heap.size w W → Calls Tryf.prog 12 #[.string s] W fun e w' => ∃ p, e = .returned (.tuple #[.agg zero32, .iface 48 (.pointer (some p))]) ∧ Below W.heap.size W w')
    (hx : ∀ W, Below w.heap.size w W → Calls Tryf.prog 8 #[.slice a n cap] W fun e w' => e = .returned (.bool false) ∧ W = w') :
    Calls Tryf.prog 4 #[.agg (cellsOf ls), .slice a n cap] w fun e w' => e = .returned (.bool true) ∧ Below w.heap.size w w' := by
  have hss : (cellsOf ls).size = 32 := by rw [cellsOf_size, hls]
  have Hb0 : Hid ((w.alloc (.cells (cellsOf ls) 22)).heap[w.heap.size]? = some (.cells (cellsOf ls) 22 (0, 0))) := heap_alloc_new _ _
  have HCV : Hid (∀ W, Below w.heap.size w W → (convert 23 9 (.slice a n cap)).run Tryf.prog W = .ok (.string s) W) := hcv
  have HP : Hid (∀ W, Below w.heap.size w W → Calls Tryf.prog 12 #[.string s] W fun e w' => ∃ p, e = .returned (.tuple #[.agg zero32, .iface 48 (.pointer (some p))]) ∧ Below W.heap.size W w') := hp
  have HX : Hid (∀ W, Below w.heap.size w W → Calls Tryf.prog 8 #[.slice a n cap] W fun e w' => e = .returned (.bool false) ∧ W = w') := hx
  clear hcv hp hx
  go_enter Tryf.func4, Tryf.ntmps4
  go_wp2_with (first | (refine wpList_load_row rfl 22 (.tmp 2) rfl w.heap.size rfl 22 (cellsOf ls) (0, 0) _ Hb0.out Tryf.underlying22 rfl (size22_of hss) ?_))
  refine (bytes7 _ a n cap _ (by omega)).mono ?_
  rintro e w1 ⟨rfl, hb1⟩
  rw [decide_eq_true hn]
  have hsz : (w.alloc (.cells (cellsOf ls) 22)).heap.size = w.heap.size + 1 := by simp
  rw [hsz] at hb1
  have hs1 := hb1.size
  rw [hsz] at hs1
  have HS1 : Hid (w1.heap[w.heap.size]? = some (.cells (cellsOf ls) 22 (0, 0))) := by show _ = _; rw [hb1.block _ (by omega)]; exact Hb0.out
  have HB1 : Hid (Below w.heap.size w w1) := ((Below.refl _ _).alloc (Nat.le_refl _) _).trans (hb1.mono (by omega))
  clear hb1 hsz Hb0
  go_wp2_with (first
    | (refine wpList_load_row rfl 22 (.tmp 2) rfl w.heap.size rfl 22 (cellsOf ls) (0, 0) _ HS1.out Tryf.underlying22 rfl (size22_of hss) ?_)
    | (refine wpList_store_fresh rfl 24 (.tmp 5) (.tmp 18) rfl (cellsOf ls) _ rfl rfl (size24_of hss) (by rw [hss]; rfl) (cellsOf_one ls) ?_))
  have hb2 : Below w.heap.size w (w1.alloc (.cells (cellsOf ls) 24)) := HB1.out.alloc (by omega) _
  refine (unmarshal_bad w1.heap.size a n cap s (w1.alloc (.cells (cellsOf ls) 24)) (HCV.out _ hb2) (HP.out _ hb2)).mono ?_
  rintro e w3 ⟨p, rfl, hb3⟩
  have HS3 : Hid (w3.heap[w.heap.size]? = some (.cells (cellsOf ls) 22 (0, 0))) := by
    show _ = _
    rw [hb3.block _ (by simp; omega), Below.heap_alloc _ _ _ (by omega)]; exact HS1.out
  have HI3 : Hid (w3.heap[w1.heap.size]? = some (.cells (cellsOf ls) 24 (0, 0))) := by
    show _ = _
    rw [hb3.block _ (by simp), heap_alloc_new]
  have HB3 : Hid (Below w.heap.size w w3) := hb2.trans (hb3.mono (by simp; omega))
  clear hb2 hb3 HS1 HB1
  go_wp2_with fail
  refine (HX.out _ HB3.out).mono ?_
  rintro e w4 ⟨rfl, rfl⟩
  clear HX HP HCV
  have heq := equal_bytes ls ls hls hls
  rw [beq_self_eq_true] at heq
  go_wp2_with (first
    | (refine wpList_load_want rfl 24 (.tmp 5) rfl w1.heap.size rfl 24 (cellsOf ls) (0, 0) 32 5 HI3.out Tryf.underlying24 (size24_of hss) ?_)
    | (refine wpList_load_want rfl 22 (.tmp 2) rfl w.heap.size rfl 22 (cellsOf ls) (0, 0) 32 5 HS3.out Tryf.underlying22 (size22_of hss) ?_))
  go_ret
  exact ⟨rfl, HB3.out⟩
end Go.Proofs.Qxb6628775aFmt
