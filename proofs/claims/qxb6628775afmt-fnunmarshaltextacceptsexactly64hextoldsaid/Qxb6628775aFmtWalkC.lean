/- The walk of ParsePeerID where it refuses. -/
import Derived.Test.Qxb6628775aFmtWalkB
namespace Go.Proofs.Qxb6628775aFmt
open Go.RowKit Go.Extern.Stop Go.Stop Go.Extern

theorem zero32_one : zero32.all (·.oneCell') = true := by rw [zero32_cells]; exact cellsOf_one _

set_option maxHeartbeats 1000000 in
theorem parse_short (F : Interp) (s : ByteArray) (w : World) (hF : F.answers w.tape) (hs : s.size ≠ 64) :
    Calls Tryf.prog 12 #[.string s] w fun e w' => ∃ p, e = .returned (.tuple #[.agg zero32, .iface 48 (.pointer (some p))]) ∧ Below w.heap.size w w' := by
  have hne : ((s.size : Int) == 64) = false := by simp; omega
  have HF : Hid (F.answers w.tape) := hF
  clear hF
  go_enter Tryf.func12, Tryf.ntmps12
  go_wp2_with (go_at_call 14; refine (Tryf.hex_EncodedLen _ (by omega) (by omega) _).mono ?_; rintro e w' ⟨rfl, rfl⟩)
  rw [show (#[.int .u8 0, .int .u8 0, .int .u8 0, .int .u8 0, .int .u8 0, .int .u8 0, .int .u8 0, .int .u8 0, .int .u8 0, .int .u8 0, .int .u8 0, .int .u8 0, .int .u8 0, .int .u8 0, .int .u8 0, .int .u8 0, .int .u8 0, .int .u8 0, .int .u8 0, .int .u8 0, .int .u8 0, .int .u8 0, .int .u8 0, .int .u8 0, .int .u8 0, .int .u8 0, .int .u8 0, .int .u8 0, .int .u8 0, .int .u8 0, .int .u8 0, .int .u8 0] : Array Value) = zero32 from rfl]
  have hz0 : ((w.alloc (.cells zero32 24)).alloc (.cells zero32 24)).heap[w.heap.size]? = some (.cells zero32 24 (0, 0)) := heap_alloc2_old _ _ _
  have hzs : ((w.alloc (.cells zero32 24)).alloc (.cells zero32 24)).heap.size = w.heap.size + 2 := by simp
  have hzb : Below w.heap.size w ((w.alloc (.cells zero32 24)).alloc (.cells zero32 24)) := ((Below.refl _ _).alloc (Nat.le_refl _) _).alloc (by simp) _
  generalize (w.alloc (.cells zero32 24)).alloc (.cells zero32 24) = W0 at *
  have hq : w.heap.size + 1 + 1 = W0.heap.size := by omega
  rw [hq]
  have he := errorf_q F s W0.heap.size (W0.alloc (.cells #[.iface 9 (.string s)] 20)) (by rw [show (W0.alloc (.cells #[.iface 9 (.string s)] 20)).tape = w.tape from hzb.tape]; exact HF.out)
    (by rw [cell_of_row _ _ 0 #[.iface 9 (.string s)] 20 (0, 0) (heap_alloc_new _ _)]; rfl)
  refine he.mono ?_
  rintro e w3 ⟨rfl, hb3⟩
  have HK0 : Hid (w3.heap[w.heap.size]? = some (.cells zero32 24 (0, 0))) := by
    show _ = _
    rw [hb3.block _ (by simp; omega), Below.heap_alloc _ _ _ (by omega)]
    exact hz0
  have HB : Hid (Below w.heap.size w w3) := (hzb.alloc (by omega) _).trans (hb3.mono (by simp; omega))
  clear he hb3 hz0 hzb hq
  generalize (W0.alloc (.cells #[.iface 9 (.string s)] 20)).heap.size = G at *
  go_wp2_with (refine wpList_store_row rfl 24 (.tmp 2) (.tmp 21) rfl w.heap.size zero32 rfl rfl 24 zero32 HK0.out size24 rfl zero32_one ?_)
  refine bodyPost_ret (results_cell_tmp Tryf.results12 _ _ w.heap.size 24 zero32 (0, 0) 32 5 rfl (setRow_heap _ _ _ _ _ _ HK0.out) Tryf.underlying24 size24) rfl ?_
  exact ⟨_, rfl, HB.out.trans ⟨rfl, rfl, rfl, by simp, fun k hk => setRow_other _ _ _ _ (by omega)⟩⟩

theorem decode_even : ∀ (n : Nat) (l : List UInt8), l.length = 2 * n → (Lib.Hx.decode l).2 ≠ .odd
  | 0, l, h => by
    have : l = [] := List.eq_nil_of_length_eq_zero (by omega)
    subst this
    rw [Lib.Hx.decode_nil]
    intro h
    cases h
  | n + 1, l, h => by
    match l, h with
    | p :: q :: t, h =>
      rw [Lib.Hx.decode_two]
      have ih := decode_even n t (by simp at h; omega)
      split
      · intro h; cases h
      · split
        · intro h; cases h
        · exact ih

set_option maxHeartbeats 1000000 in
theorem parse_bad (F : Interp) (s : ByteArray) (D : List UInt8) (c : UInt8) (ev : Value) (w : World) (hF : F.answers w.tape) (hs : s.size = 64) (hD : Lib.Hx.decode s.data.toList = (D, .bad c)) (hE : w.cell? ⟨0, 0, none⟩ = some ev) :
    Calls Tryf.prog 12 #[.string s] w fun e w' => ∃ p, e = .returned (.tuple #[.agg zero32, .iface 48 (.pointer (some p))]) ∧ Below w.heap.size w w' := by
  have hcv := fun W => Lib.run_convert_string_bytes (P := Tryf.prog) W 9 23 5 s Tryf.underlying9 Tryf.underlying23 Tryf.underlying5
  have HDec : Hid (Lib.Hx.decode s.data.toList = (D, .bad c)) := hD
  have HEv : Hid (w.cell? ⟨0, 0, none⟩ = some ev) := hE
  have HF : Hid (F.answers w.tape) := hF
  have h0 : 0 < w.heap.size := block_lt_of_cell hE
  clear hD hE hF
  go_enter Tryf.func12, Tryf.ntmps12
  go_wp2_with (go_at_call 14; refine (Tryf.hex_EncodedLen _ (by omega) (by omega) _).mono ?_; rintro e w' ⟨rfl, rfl⟩)
  rw [show (#[.int .u8 0, .int .u8 0, .int .u8 0, .int .u8 0, .int .u8 0, .int .u8 0, .int .u8 0, .int .u8 0, .int .u8 0, .int .u8 0, .int .u8 0, .int .u8 0, .int .u8 0, .int .u8 0, .int .u8 0, .int .u8 0, .int .u8 0, .int .u8 0, .int .u8 0, .int .u8 0, .int .u8 0, .int .u8 0, .int .u8 0, .int .u8 0, .int .u8 0, .int .u8 0, .int .u8 0, .int .u8 0, .int .u8 0, .int .u8 0, .int .u8 0, .int .u8 0] : Array Value) = zero32 from rfl]
  have hz0 : ((w.alloc (.cells zero32 24)).alloc (.cells zero32 24)).heap[w.heap.size]? = some (.cells zero32 24 (0, 0)) := heap_alloc2_old _ _ _
  have hz1 : ((w.alloc (.cells zero32 24)).alloc (.cells zero32 24)).heap[w.heap.size + 1]? = some (.cells zero32 24 (0, 0)) := heap_alloc2_new _ _ _
  have hzs : ((w.alloc (.cells zero32 24)).alloc (.cells zero32 24)).heap.size = w.heap.size + 2 := by simp
  have hzb : Below w.heap.size w ((w.alloc (.cells zero32 24)).alloc (.cells zero32 24)) := ((Below.refl _ _).alloc (Nat.le_refl _) _).alloc (by simp) _
  generalize (w.alloc (.cells zero32 24)).alloc (.cells zero32 24) = W0 at *
  have hb1 := bytesWorld_below W0 s
  have hbs : (Lib.bytesWorld W0 5 s).heap.size = w.heap.size + 3 := by rw [Lib.bytesWorld_size, hzs]
  have hsrc : ∀ i, i < 64 → (Lib.bytesWorld W0 5 s).cell? ⟨w.heap.size + 1 + 1, 0 + i, none⟩ = some (.int .u8 ((nums s.data.toList).getD i 0)) := by
    intro i hi
    have hl : i < s.data.toList.length := by
      have h9 : s.data.size = 64 := hs
      rw [Array.length_toList]; omega
    have h1 := Lib.bytesWorld_cell W0 5 s i (by omega)
    rw [hzs] at h1
    rw [Nat.zero_add, nums_at _ _ hl, show w.heap.size + 1 + 1 = w.heap.size + 2 by omega, h1]
    rw [List.getD_eq_getElem?_getD, List.getElem?_eq_getElem hl]
    rfl
  have hr : ∀ i, i < 64 → 0 ≤ (nums s.data.toList).getD i 0 ∧ (nums s.data.toList).getD i 0 < 256 := by
    intro i hi
    have hl : i < s.data.toList.length := by
      have h9 : s.data.size = 64 := hs
      rw [Array.length_toList]; omega
    rw [nums_at _ _ hl]
    have := s.data.toList[i].toNat_lt
    omega
  have hn : (nums s.data.toList).length = 64 := by rw [nums_length]; simpa [← ByteArray.size_data] using hs
  have hc0 : (Lib.bytesWorld W0 5 s).cell? ⟨0, 0, none⟩ = some ev := by
    rw [hb1.cell (p := ⟨0, 0, none⟩) (by rw [hzs]; show 0 < _; omega), hzb.cell (p := ⟨0, 0, none⟩) h0]
    exact HEv.out
  have hdec := Tryf.hex_Decode_tag 24 (w.heap.size + 1) 0 32 32 32 (fun _ => .int .u8 0) (w.heap.size + 1 + 1) 0 64 (grownCap W0 64 0 5) (nums s.data.toList) (Lib.bytesWorld W0 5 s) ev hn hr hsrc
    (zero_row _ _ (by rw [hb1.block _ (by rw [hzs]; omega)]; exact hz1)) (by omega) (by omega) (by omega) (by omega) hc0 (by omega)
  rw [nums_bytes, HDec.out] at hdec
  refine hdec.mono ?_
  rintro e w4 ⟨rfl, hrow, hgr⟩
  have hk0 : w4.heap[w.heap.size]? = some (.cells zero32 24 (0, 0)) := by
    rw [hgr.block _ (by omega) (by simp), hb1.block _ (by omega)]
    exact hz0
  have hbel : Below w.heap.size w w4 := (hzb.trans (hb1.mono (by omega))).grown hgr (by omega) (fun k hk => by simp at hk; omega)
  have hsz : w.heap.size < w4.heap.size := by have := hgr.size; omega
  clear hdec hrow hgr hc0 hn hr hsrc hb1 hzb hz0 hz1 hcv hbs hzs
  simp only [Lib.Hx.errVal]
  go_wp2_with fail
  have he := errorf_q F s w4.heap.size (w4.alloc (.cells #[.iface 9 (.string s)] 20)) (by rw [show (w4.alloc (.cells #[.iface 9 (.string s)] 20)).tape = w.tape from hbel.tape]; exact HF.out)
    (by rw [cell_of_row _ _ 0 #[.iface 9 (.string s)] 20 (0, 0) (heap_alloc_new _ _)]; rfl)
  refine he.mono ?_
  rintro e w3 ⟨rfl, hb3⟩
  have HK0 : Hid (w3.heap[w.heap.size]? = some (.cells zero32 24 (0, 0))) := by
    show _ = _
    rw [hb3.block _ (by simp; omega), Below.heap_alloc _ _ _ (by omega)]
    exact hk0
  have HB : Hid (Below w.heap.size w w3) := (hbel.alloc (by omega) _).trans (hb3.mono (by simp; omega))
  clear he hb3 hk0 hbel
  generalize (w4.alloc (.cells #[.iface 9 (.string s)] 20)).heap.size = G at *
  rw [show (#[.int .u8 0, .int .u8 0, .int .u8 0, .int .u8 0, .int .u8 0, .int .u8 0, .int .u8 0, .int .u8 0, .int .u8 0, .int .u8 0, .int .u8 0, .int .u8 0, .int .u8 0, .int .u8 0, .int .u8 0, .int .u8 0, .int .u8 0, .int .u8 0, .int .u8 0, .int .u8 0, .int .u8 0, .int .u8 0, .int .u8 0, .int .u8 0, .int .u8 0, .int .u8 0, .int .u8 0, .int .u8 0, .int .u8 0, .int .u8 0, .int .u8 0, .int .u8 0] : Array Value) = zero32 from rfl]
  go_wp2_with (refine wpList_store_row rfl 24 (.tmp 2) (.tmp 21) rfl w.heap.size zero32 rfl rfl 24 zero32 HK0.out size24 rfl zero32_one ?_)
  refine bodyPost_ret (results_cell_tmp Tryf.results12 _ _ w.heap.size 24 zero32 (0, 0) 32 5 rfl (setRow_heap _ _ _ _ _ _ HK0.out) Tryf.underlying24 size24) rfl ?_
  exact ⟨_, rfl, HB.out.trans ⟨rfl, rfl, rfl, by simp, fun k hk => setRow_other _ _ _ _ (by omega)⟩⟩
end Go.Proofs.Qxb6628775aFmt
