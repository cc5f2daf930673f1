/- The walk of ParsePeerID. -/
import Derived.Test.Qxb6628775aFmtWalkA
import Derived.Lib.ConvBytes
namespace Go.Proofs.Qxb6628775aFmt
open Go.RowKit Go.Extern.Stop Go.Stop Go.Extern

/-- The zero value's cells. -/
def zero32 : Array Value := #[.int .u8 0, .int .u8 0, .int .u8 0, .int .u8 0, .int .u8 0, .int .u8 0, .int .u8 0, .int .u8 0, .int .u8 0, .int .u8 0, .int .u8 0, .int .u8 0, .int .u8 0, .int .u8 0, .int .u8 0, .int .u8 0, .int .u8 0, .int .u8 0, .int .u8 0, .int .u8 0, .int .u8 0, .int .u8 0, .int .u8 0, .int .u8 0, .int .u8 0, .int .u8 0, .int .u8 0, .int .u8 0, .int .u8 0, .int .u8 0, .int .u8 0, .int .u8 0]
theorem zero32_size : zero32.size = 32 := rfl
theorem zero32_cells : zero32 = cellsOf (List.replicate 32 0) := rfl

theorem bytesWorld_below (w : World) (s : ByteArray) : Below w.heap.size w (Lib.bytesWorld w 5 s) :=
  ⟨by unfold Lib.bytesWorld World.freeze; split <;> rfl, by unfold Lib.bytesWorld World.freeze; split <;> rfl, by unfold Lib.bytesWorld World.freeze; split <;> rfl, by rw [Lib.bytesWorld_size]; omega, fun k hk => Lib.bytesWorld_at_old w 5 s k hk⟩

/-- The numbers of a string's bytes. -/
def nums (l : List UInt8) : List Int := l.map fun b => (b.toNat : Int)
theorem nums_length (l : List UInt8) : (nums l).length = l.length := by simp [nums]
theorem nums_at (l : List UInt8) (i : Nat) (h : i < l.length) : (nums l).getD i 0 = (l[i].toNat : Int) := by simp [nums, h]
theorem nums_bytes (l : List UInt8) : Lib.bytesOf (nums l) = l := by
  unfold Lib.bytesOf nums
  rw [List.map_map]
  conv => rhs; rw [← List.map_id l]
  apply List.map_congr_left
  intro b _
  simp

theorem block_of_row {w : World} {g : Nat} {T : TypeId} {D : List UInt8} (f : Nat → Value) (h : w.rowIs g T 32 (Lib.Hx.rowP f 0 D)) (hD : D.length = 32) :
    w.heap[g]? = some (.cells (cellsOf D) T (0, 0)) := by
  obtain ⟨c, hb, hn, hc⟩ := h
  have e : c = cellsOf D := by
    apply Array.ext
    · rw [hn, cellsOf_size, hD]
    · intro i h1 h2
      have hi : i < 32 := by omega
      have h3 := hc i hi
      have h4 := cellsOf_at D i (by omega)
      have h5 : Lib.Hx.rowP f 0 D i = .int .u8 (D[i].toNat : Int) := by
        unfold Lib.Hx.rowP
        rw [if_pos (by omega)]
        simp [hD, hi]
      rw [h5, ← h4] at h3
      rw [Array.getElem?_eq_getElem h1, Array.getElem?_eq_getElem h2] at h3
      exact Option.some.inj h3
  rw [← e]
  exact hb

theorem zero_row (w : World) (g : Nat) (h : w.heap[g]? = some (.cells zero32 24 (0, 0))) : w.rowIs g 24 32 (fun _ => .int .u8 0) :=
  ⟨zero32, h, rfl, fun i hi => by
    rw [zero32_cells, cellsOf_at _ i (by rw [List.length_replicate]; exact hi), List.getElem_replicate]
    rfl⟩

/-- Two results, the first in memory. -/
theorem results_cell_tmp {fn : Func} {p q : Tmp} {ty : TypeId} (h : fn.results = #[.cell p ty, .tmp q]) (tmps : Array Value) (w : World) (g : Nat) (t : TypeId) (cs : Array Value) (fr : Nat × Nat) (n : Nat) (el : TypeId)
    (hp : tmps.getD p undef = .pointer (some ⟨g, 0, none⟩)) (hg : w.heap[g]? = some (.cells cs t fr))
    (hu : Tryf.prog.underlying ty = some (.array n el)) (hi : (Tryf.prog.info? ty).map (·.size) = some cs.size) :
    (results fn tmps).run Tryf.prog w = .ok (.tuple #[.agg cs, tmps.getD q undef]) w := by
  have hp' : tmps[p]?.getD undef = .pointer (some ⟨g, 0, none⟩) := by simpa using hp
  simp [results, h, hp', asAddr, run_loadVar_row w g t ty cs fr _ hg hu rfl hi]

set_option maxHeartbeats 1000000 in
theorem parse_ok (s : ByteArray) (D : List UInt8) (ev : Value) (w : World) (hs : s.size = 64) (hD : Lib.Hx.decode s.data.toList = (D, .ok)) (hDl : D.length = 32) (hE : w.cell? ⟨0, 0, none⟩ = some ev) :
    Calls Tryf.prog 12 #[.string s] w fun e w' => e = .returned (.tuple #[.agg (cellsOf D), .nilIface]) ∧ Below w.heap.size w w' := by
  have hcv := fun W => Lib.run_convert_string_bytes (P := Tryf.prog) W 9 23 5 s Tryf.underlying9 Tryf.underlying23 Tryf.underlying5
  have HDec : Hid (Lib.Hx.decode s.data.toList = (D, .ok)) := hD
  have HEv : Hid (w.cell? ⟨0, 0, none⟩ = some ev) := hE
  have h0 : 0 < w.heap.size := block_lt_of_cell hE
  clear hD hE
  go_enter Tryf.func12, Tryf.ntmps12
  go_wp2_with (go_at_call 14; refine (Tryf.hex_EncodedLen _ (by omega) (by omega) _).mono ?_; rintro e w' ⟨rfl, rfl⟩)
  rw [show (#[.int .u8 0, .int .u8 0, .int .u8 0, .int .u8 0, .int .u8 0, .int .u8 0, .int .u8 0, .int .u8 0, .int .u8 0, .int .u8 0, .int .u8 0, .int .u8 0, .int .u8 0, .int .u8 0, .int .u8 0, .int .u8 0, .int .u8 0, .int .u8 0, .int .u8 0, .int .u8 0, .int .u8 0, .int .u8 0, .int .u8 0, .int .u8 0, .int .u8 0, .int .u8 0, .int .u8 0, .int .u8 0, .int .u8 0, .int .u8 0, .int .u8 0, .int .u8 0] : Array Value) = zero32 from rfl]
  have hz0 : ((w.alloc (.cells zero32 24)).alloc (.cells zero32 24)).heap[w.heap.size]? = some (.cells zero32 24 (0, 0)) := heap_alloc2_old _ _ _
  have hz1 : ((w.alloc (.cells zero32 24)).alloc (.cells zero32 24)).heap[w.heap.size + 1]? = some (.cells zero32 24 (0, 0)) := heap_alloc2_new _ _ _
  have hzs : ((w.alloc (.cells zero32 24)).alloc (.cells zero32 24)).heap.size = w.heap.size + 2 := by simp
  have hzb : Below w.heap.size w ((w.alloc (.cells zero32 24)).alloc (.cells zero32 24)) := ((Below.refl _ _).alloc (Nat.le_refl _) _).alloc (by simp) _
  generalize (w.alloc (.cells zero32 24)).alloc (.cells zero32 24) = W0 at *
  have hb1 := bytesWorld_below W0 s
  have hbs : (Lib.bytesWorld W0 5 s).heap.size = w.heap.size + 3 := by rw [Lib.bytesWorld_size, hzs]
  have hsrc : ∀ i, i < 64 → (Lib.bytesWorld W0 5 s).cell? ⟨w.heap.size + 1 + 1, 0 + i, none⟩ = some (.int .u8 ((nums s.data.toList).getD i 0)) := by
    intro i hi
    have hl : i < s.data.toList.length := by
      have h9 : s.data.size = 64 := hs
      rw [Array.length_toList]; omega
    have h1 := Lib.bytesWorld_cell W0 5 s i (by omega)
    rw [hzs] at h1
    rw [Nat.zero_add, nums_at _ _ hl, show w.heap.size + 1 + 1 = w.heap.size + 2 by omega, h1]
    rw [List.getD_eq_getElem?_getD, List.getElem?_eq_getElem hl]
    rfl
  have hr : ∀ i, i < 64 → 0 ≤ (nums s.data.toList).getD i 0 ∧ (nums s.data.toList).getD i 0 < 256 := by
    intro i hi
    have hl : i < s.data.toList.length := by
      have h9 : s.data.size = 64 := hs
      rw [Array.length_toList]; omega
    rw [nums_at _ _ hl]
    have := s.data.toList[i].toNat_lt
    omega
  have hn : (nums s.data.toList).length = 64 := by rw [nums_length]; simpa [← ByteArray.size_data] using hs
  have hc0 : (Lib.bytesWorld W0 5 s).cell? ⟨0, 0, none⟩ = some ev := by
    rw [hb1.cell (p := ⟨0, 0, none⟩) (by rw [hzs]; show 0 < _; omega), hzb.cell (p := ⟨0, 0, none⟩) h0]
    exact HEv.out
  have hdec := Tryf.hex_Decode_tag 24 (w.heap.size + 1) 0 32 32 32 (fun _ => .int .u8 0) (w.heap.size + 1 + 1) 0 64 (grownCap W0 64 0 5) (nums s.data.toList) (Lib.bytesWorld W0 5 s) ev hn hr hsrc
    (zero_row _ _ (by rw [hb1.block _ (by rw [hzs]; omega)]; exact hz1)) (by omega) (by omega) (by omega) (by omega) hc0 (by omega)
  rw [nums_bytes, HDec.out] at hdec
  refine hdec.mono ?_
  rintro e w3 ⟨rfl, hrow, hgr⟩
  have hk1 := block_of_row _ hrow hDl
  have hk0 : w3.heap[w.heap.size]? = some (.cells zero32 24 (0, 0)) := by
    rw [hgr.block _ (by omega) (by simp), hb1.block _ (by omega)]
    exact hz0
  have hbel : Below w.heap.size w w3 := (hzb.trans (hb1.mono (by omega))).grown hgr (by omega) (fun k hk => by simp at hk; omega)
  clear hdec hrow hgr hc0 hn hr hsrc hb1 hzb hz0 hz1 hcv hbs hzs
  have HK1 : Hid (w3.heap[w.heap.size + 1]? = some (.cells (cellsOf D) 24 (0, 0))) := hk1
  have HK0 : Hid (w3.heap[w.heap.size]? = some (.cells zero32 24 (0, 0))) := hk0
  have HB : Hid (Below w.heap.size w w3) := hbel
  clear hk1 hk0 hbel
  simp only [Lib.Hx.errVal]
  go_wp2_with (first
    | (refine wpList_load_row rfl 24 (.tmp 4) rfl (w.heap.size + 1) rfl 24 (cellsOf D) (0, 0) _ HK1.out Tryf.underlying24 rfl (by rw [cellsOf_size, hDl]; exact size24) ?_)
    | (refine wpList_store_row rfl 24 (.tmp 2) (.tmp 20) rfl w.heap.size (cellsOf D) rfl rfl 24 zero32 HK0.out (by rw [cellsOf_size, hDl]; exact size24) (by rw [cellsOf_size, hDl]; rfl) (cellsOf_one D) ?_))
  refine bodyPost_ret (results_cell_tmp Tryf.results12 _ _ w.heap.size 24 (cellsOf D) (0, 0) 32 5 rfl (setRow_heap _ _ _ _ _ _ HK0.out) Tryf.underlying24 (by rw [cellsOf_size, hDl]; exact size24)) rfl ?_
  exact ⟨rfl, HB.out.trans ⟨rfl, rfl, rfl, by simp, fun k hk => setRow_other _ _ _ _ (by omega)⟩⟩
end Go.Proofs.Qxb6628775aFmt
