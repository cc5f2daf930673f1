/- The walk of FnUnmarshalTextAcceptsExactly64Hex where the text is read. -/
import Derived.Test.Qxb6628775aFmtWalkG
import Derived.Deep.RegionHeld3
import Derived.Deep.QuietTactic
import Derived.BigQuiet
namespace Go.Proofs.Qxb6628775aFmt
open Go.RowKit Go.Extern.Stop Go.Stop Go.Extern

/-- The row of the bytes D behind k of them. -/
def rowD (D : List UInt8) (k : Nat) : Nat → Value := fun j => if j < k then .int .u8 ((D.getD j 0).toNat : Int) else .int .u8 0

theorem rowD_step (D : List UInt8) (k : Nat) (x : Int) (hx : x = ((D.getD k 0).toNat : Int)) (j : Nat) : (if j = k then Value.int .u8 x else rowD D k j) = rowD D (k + 1) j := by
  unfold rowD
  by_cases h : j = k
  · subst h; rw [if_pos rfl, if_pos (by omega), hx]
  · rw [if_neg h]
    by_cases h2 : j < k
    · rw [if_pos h2, if_pos (by omega)]
    · rw [if_neg h2, if_neg (by omega)]

theorem block_of_rowD {w : World} {g : Nat} {T : TypeId} {D : List UInt8} (h : w.rowIs g T 32 (rowD D 32)) (hD : D.length = 32) :
    w.heap[g]? = some (.cells (cellsOf D) T (0, 0)) := by
  obtain ⟨c, hb, hn, hc⟩ := h
  have e : c = cellsOf D := by
    apply Array.ext
    · rw [hn, cellsOf_size, hD]
    · intro i h1 h2
      have hi : i < 32 := by omega
      have h3 := hc i hi
      have h4 := cellsOf_at D i (by omega)
      have h5 : rowD D 32 i = .int .u8 (D[i].toNat : Int) := by
        unfold rowD
        rw [if_pos hi]
        simp [hD, hi]
      rw [h5, ← h4] at h3
      rw [Array.getElem?_eq_getElem h1, Array.getElem?_eq_getElem h2] at h3
      exact Option.some.inj h3
  rw [← e]
  exact hb

theorem TxtAt.of_block {w w' : World} {b o : Nat} {l : List UInt8} (h : TxtAt w b o l) (e : w'.heap[b]? = w.heap[b]?) : TxtAt w' b o l := fun j hj => by
  rw [World.cell?_of_block (w := w) e]
  exact h j hj

theorem TxtAt.conv {w : World} {b o : Nat} {l : List UInt8} (h : TxtAt w b o l) {n : Nat} (hn : l.length = n) (cap : Nat) :
    (convert 23 9 (.slice (some ⟨b, o, none⟩) n cap)).run Tryf.prog w = .ok (.string ⟨l.toArray⟩) w := by
  subst hn
  refine run_convert_bytes_back _ 23 9 5 ⟨b, o, none⟩ cap l Tryf.underlying23 Tryf.underlying5 Tryf.underlying9 (fun j hj => ?_)
  rw [Addr.add_mid]
  exact h j hj

set_option maxHeartbeats 2000000 in
theorem accepts_yes (ls tl : List UInt8) (b o cap : Nat) (ev : Value) (w : World) (hls : ls.length = 32) (htl : tl.length = 64) (hhex : ∀ c ∈ tl, isHex c = true) (hE : w.cell? ⟨0, 0, none⟩ = some ev)
    (hb : b < w.heap.size) (ht : TxtAt w b o tl) :
    Calls Tryf.prog 4 #[.agg (cellsOf ls), .slice (some ⟨b, o, none⟩) 64 cap] w fun e w' => e = .returned (.bool true) ∧ Below w.heap.size w w' := by
  have hss : (cellsOf ls).size = 32 := by rw [cellsOf_size, hls]
  have Hb0 : Hid ((w.alloc (.cells (cellsOf ls) 22)).heap[w.heap.size]? = some (.cells (cellsOf ls) 22 (0, 0))) := heap_alloc_new _ _
  have h0 : 0 < w.heap.size := block_lt_of_cell hE
  have HEv : Hid (w.cell? ⟨0, 0, none⟩ = some ev) := hE
  have HT : Hid (TxtAt w b o tl) := ht
  have HTL : Hid (tl.length = 64) := htl
  have HH : Hid (∀ c ∈ tl, isHex c = true) := hhex
  have hdl := pairs_length 32 tl htl
  have HDec : Hid (Lib.Hx.decode tl = (pairs tl, .ok)) := decode_pairs 32 tl htl hhex
  have HEnc : Hid (Lib.Hx.encode (pairs tl) = tl.map low) := encode_pairs 32 tl htl hhex
  have HAll : Hid (tl.all isHex = true) := List.all_eq_true.2 hhex
  clear hE ht htl hhex
  go_enter Tryf.func4, Tryf.ntmps4
  go_wp2_with (first | (refine wpList_load_row rfl 22 (.tmp 2) rfl w.heap.size rfl 22 (cellsOf ls) (0, 0) _ Hb0.out Tryf.underlying22 rfl (size22_of hss) ?_))
  refine (bytes7 _ _ 64 cap _ (by omega)).mono ?_
  rintro e w1 ⟨rfl, hb1⟩
  have hsz : (w.alloc (.cells (cellsOf ls) 22)).heap.size = w.heap.size + 1 := by simp
  rw [hsz] at hb1
  have hs1 := hb1.size
  rw [hsz] at hs1
  have HS1 : Hid (w1.heap[w.heap.size]? = some (.cells (cellsOf ls) 22 (0, 0))) := by show _ = _; rw [hb1.block _ (by omega)]; exact Hb0.out
  have HB1 : Hid (Below w.heap.size w w1) := ((Below.refl _ _).alloc (Nat.le_refl _) _).trans (hb1.mono (by omega))
  clear hb1 hsz Hb0
  go_wp2_with (first
    | (refine wpList_load_row rfl 22 (.tmp 2) rfl w.heap.size rfl 22 (cellsOf ls) (0, 0) _ HS1.out Tryf.underlying22 rfl (size22_of hss) ?_)
    | (refine wpList_store_fresh rfl 24 (.tmp 5) (.tmp 18) rfl (cellsOf ls) _ rfl rfl (size24_of hss) (by rw [hss]; rfl) (cellsOf_one ls) ?_))
  have hb2 : Below w.heap.size w (w1.alloc (.cells (cellsOf ls) 24)) := HB1.out.alloc (by omega) _
  have hE2 : (w1.alloc (.cells (cellsOf ls) 24)).cell? ⟨0, 0, none⟩ = some ev := by rw [hb2.cell (p := ⟨0, 0, none⟩) h0]; exact HEv.out
  have HT2 : TxtAt (w1.alloc (.cells (cellsOf ls) 24)) b o tl := HT.out.of_block (hb2.block _ hb)
  refine (unmarshal_ok w1.heap.size (cellsOf ls) (some ⟨b, o, none⟩) 64 cap ⟨tl.toArray⟩ (pairs tl) ev (w1.alloc (.cells (cellsOf ls) 24)) (by simpa [← ByteArray.size_data] using HTL.out) HDec.out hdl hE2 (HT2.conv HTL.out cap) (heap_alloc_new _ _) hss (by simp)).mono ?_
  rintro e w3 ⟨rfl, hid3, hgr3⟩
  have HI3 : Hid (w3.heap[w1.heap.size]? = some (.cells (cellsOf (pairs tl)) 24 (0, 0))) := hid3
  have hs3 : w1.heap.size + 1 ≤ w3.heap.size := by simpa using hgr3.size
  have HB3 : Hid (Below w.heap.size w w3) := hb2.grown hgr3 (by simp; omega) (fun k hk => by simp at hk; omega)
  have HT3 : Hid (TxtAt w3 b o tl) := HT.out.of_block (HB3.out.block _ hb)
  clear hb2 hE2 HT2 hid3 hgr3 HS1 HB1 HDec
  go_wp2_with fail
  refine (peerhex_full b o cap tl w3 HTL.out HT3.out).mono ?_
  rintro e w4 ⟨rfl, rfl⟩
  rw [HAll.out]
  clear HAll
  go_wp2_with fail
  rw [show (#[.int .u8 0, .int .u8 0, .int .u8 0, .int .u8 0, .int .u8 0, .int .u8 0, .int .u8 0, .int .u8 0, .int .u8 0, .int .u8 0, .int .u8 0, .int .u8 0, .int .u8 0, .int .u8 0, .int .u8 0, .int .u8 0, .int .u8 0, .int .u8 0, .int .u8 0, .int .u8 0, .int .u8 0, .int .u8 0, .int .u8 0, .int .u8 0, .int .u8 0, .int .u8 0, .int .u8 0, .int .u8 0, .int .u8 0, .int .u8 0, .int .u8 0, .int .u8 0] : Array Value) = zero32 from rfl]
  go_loopw [8] (fun vi wr => ∃ k : Nat, k ≤ 32 ∧ vi = .int .i64 k ∧ Hid (wr.rowIs w3.heap.size 22 32 (rowD (pairs tl) k)) ∧ Hid (Below w3.heap.size w3 wr)) (fun vi _ => 32 - (intOf vi).toNat)
  case atStart => exact ⟨0, Nat.zero_le _, rfl, ⟨zero32, heap_alloc_new _ _, rfl, fun i hi => by rw [zero32_cells, cellsOf_at _ i (by rw [List.length_replicate]; exact hi), List.getElem_replicate]; rfl⟩, (Below.refl _ _).alloc (Nat.le_refl _) _⟩
  case round =>
    obtain ⟨k, hk, rfl, hrow, hbel⟩ := hrel
    by_cases hlt : k < 32
    · have hk1 : 2 * k < tl.length := by rw [HTL.out]; omega
      have hk2 : 2 * k + 1 < tl.length := by rw [HTL.out]; omega
      have hcell1 : wr.cell? ⟨b, o + 2 * k, none⟩ = some (.int .u8 (tl[2 * k].toNat : Int)) := (hbel.out.cell (p := ⟨b, o + 2 * k, none⟩) (by show b < _; omega)).trans (HT3.out _ hk1)
      have hcell2 : wr.cell? ⟨b, o + (2 * k + 1), none⟩ = some (.int .u8 (tl[2 * k + 1].toNat : Int)) := (hbel.out.cell (p := ⟨b, o + (2 * k + 1), none⟩) (by show b < _; omega)).trans (HT3.out _ hk2)
      have hx1 : isHex tl[2 * k] = true := HH.out _ (List.getElem_mem hk1)
      have hx2 : isHex tl[2 * k + 1] = true := HH.out _ (List.getElem_mem hk2)
      have HPk : Hid ((pairs tl).getD k 0 = UInt8.ofNat (Lib.Hx.v tl[2 * k] * 16 + Lib.Hx.v tl[2 * k + 1])) := by
        show _ = _
        rw [List.getD_eq_getElem?_getD, pairs_at k tl hk2]
        rfl
      have hv1 : Lib.Hx.v tl[2 * k] ≤ 15 := by simpa [isHex] using hx1
      have hv2 : Lib.Hx.v tl[2 * k + 1] ≤ 15 := by simpa [isHex] using hx2
      have hf1 : wr.frozen? ⟨w3.heap.size, k, none⟩ = false := hrow.out.frozen _
      have hc1 : wr.cell? ⟨w3.heap.size, k, none⟩ = some (rowD (pairs tl) k k) := hrow.out.cell hlt
      generalize tl[2 * k] = c1 at *
      generalize tl[2 * k + 1] = c2 at *
      have n1 := fun W => nibble c1 W hx1
      have n2 := fun W => nibble c2 W hx2
      have HN1 : Hid (∀ W, Calls Tryf.prog 9 #[.int .u8 (c1.toNat : Int)] W fun e w' => e = .returned (.int .u8 (Lib.Hx.v c1 : Int)) ∧ W = w') := n1
      have HN2 : Hid (∀ W, Calls Tryf.prog 9 #[.int .u8 (c2.toNat : Int)] W fun e w' => e = .returned (.int .u8 (Lib.Hx.v c2 : Int)) ∧ W = w') := n2
      clear n1 n2 hk1 hk2 hx1 hx2
      have HOr : Hid (bits BinOp.or IntKind.u8 ((Lib.Hx.v c1 : Int) * 16) (Lib.Hx.v c2 : Int) = ((UInt8.ofNat (Lib.Hx.v c1 * 16 + Lib.Hx.v c2)).toNat : Int)) := Lib.Hx.or_digits _ _ (by omega) (by omega)
      generalize Lib.Hx.v c1 = x1 at *
      generalize Lib.Hx.v c2 = x2 at *
      have hi1 : (0 : Int) ≤ (k : Int) := by omega
      have hi2 : (k : Int) < 32 := by omega
      rw [show 2 * k = (2 * (k : Int)).toNat by omega] at hcell1
      rw [show 2 * k + 1 = (2 * (k : Int) + 1).toNat by omega] at hcell2
      have hfar1 : ∀ v, (wr.setCell ⟨w3.heap.size, k, none⟩ v).cell? ⟨b, o + (2 * (k : Int)).toNat, none⟩ = some (.int .u8 (c1.toNat : Int)) := fun v => (World.cell?_setCell_far _ _ _ _ (by show w3.heap.size ≠ b; omega)).trans hcell1
      have hfar2 : ∀ v, (wr.setCell ⟨w3.heap.size, k, none⟩ v).cell? ⟨b, o + (2 * (k : Int) + 1).toNat, none⟩ = some (.int .u8 (c2.toNat : Int)) := fun v => (World.cell?_setCell_far _ _ _ _ (by show w3.heap.size ≠ b; omega)).trans hcell2
      have hi3 : (0 : Int) ≤ 2 * (k : Int) := by omega
      have hi4 : 2 * (k : Int) < 64 := by omega
      have hi5 : (0 : Int) ≤ 2 * (k : Int) + 1 := by omega
      have hi6 : 2 * (k : Int) + 1 < 64 := by omega
      have hw1 : IntKind.i64.wrap (2 * (k : Int)) = 2 * (k : Int) := IntWalk.i64_in _ (by omega)
      have hw2 : IntKind.i64.wrap (2 * (k : Int) + 1) = 2 * (k : Int) + 1 := IntWalk.i64_in _ (by omega)
      go_wp2
      go_region_held3 (fun w' => w'.cell? ⟨b, o + (2 * (k : Int)).toNat, none⟩ = some (.int .u8 (c1.toNat : Int)) ∧ w'.cell? ⟨b, o + (2 * (k : Int) + 1).toNat, none⟩ = some (.int .u8 (c2.toNat : Int))) (go_keep)
        (first | (go_at_call_of 9 (Value.int .u8 (c1.toNat : Int)); refine (HN1.out _).mono ?_; rintro e w' ⟨rfl, rfl⟩) | (go_at_call_of 9 (Value.int .u8 (c2.toNat : Int)); refine (HN2.out _).mono ?_; rintro e w' ⟨rfl, rfl⟩))
      go_wp2
      go_roundw
      case rel =>
        refine ⟨k + 1, by omega, by go_num, (hrow.out.set k _).drew.congr (fun j _ => rowD_step _ _ _ ?_ j), (hbel.out.setCell (Nat.le_refl _) _).drew⟩
        rw [HPk.out, ← HOr.out]
      case measure => simp [intOf]; omega
    · have hk32 : k = 32 := by omega
      subst hk32
      have hds : (cellsOf (pairs tl)).size = 32 := by rw [cellsOf_size, hdl]
      have hs4 := hbel.out.size
      have HW4 : Hid (wr.heap[w3.heap.size]? = some (.cells (cellsOf (pairs tl)) 22 (0, 0))) := block_of_rowD hrow.out hdl
      have HI4 : Hid (wr.heap[w1.heap.size]? = some (.cells (cellsOf (pairs tl)) 24 (0, 0))) := by show _ = _; rw [hbel.out.block _ (by omega)]; exact HI3.out
      have HB4 : Hid (Below w.heap.size w wr) := HB3.out.trans (hbel.out.mono (by omega))
      have heq := equal_bytes (pairs tl) (pairs tl) hdl hdl
      rw [beq_self_eq_true] at heq
      clear hrow hbel HI3 HB3 HT3
      go_wp2_with (first
        | (refine wpList_load_row rfl 24 (.tmp 5) rfl w1.heap.size rfl 24 (cellsOf (pairs tl)) (0, 0) _ HI4.out Tryf.underlying24 rfl (size24_of hds) ?_)
        | (refine wpList_load_row rfl 22 (.tmp 7) rfl w3.heap.size rfl 22 (cellsOf (pairs tl)) (0, 0) _ HW4.out Tryf.underlying22 rfl (size22_of hds) ?_))
      refine (string_any (pairs tl) wr hdl).mono ?_
      rintro e w5 ⟨rfl, hb5⟩
      have HB5 : Hid (Below w.heap.size w w5) := HB4.out.trans (hb5.mono (by have := HB4.out.size; omega))
      have HT5 : Hid (TxtAt w5 b o tl) := HT.out.of_block (HB5.out.block _ hb)
      rw [HEnc.out]
      have hsz5 : (⟨(tl.map low).toArray⟩ : ByteArray).size = 64 := by simpa [← ByteArray.size_data] using HTL.out
      clear hb5 heq HW4 HI4 HB4
      have HSk : Hid (∀ (k : Nat) (h1 : k < (⟨(tl.map low).toArray⟩ : ByteArray).size) (h2 : k < tl.length), ((⟨(tl.map low).toArray⟩ : ByteArray)[k]'h1) = low tl[k]) := fun k h1 h2 => by
        show (tl.map low).toArray[k] = _
        simp
      generalize (⟨(tl.map low).toArray⟩ : ByteArray) = S at *
      go_wp2_with fail
      go_loopw [10] (fun vi wr => ∃ k nq : Nat, k ≤ 64 ∧ vi = .int .i64 k ∧ wr = w5.drewN nq) (fun vi _ => 64 - (intOf vi).toNat)
      case atStart => exact ⟨0, 0, Nat.zero_le _, rfl, rfl⟩
      case round =>
        obtain ⟨k, nq0, hk, rfl, hwr⟩ := hrel
        have HWr : Hid (wr = w5.drewN nq0) := hwr
        clear hwr
        by_cases hlt : k < 64
        · have hkl : k < tl.length := by rw [HTL.out]; exact hlt
          have hks : k < S.size := by rw [hsz5]; exact hlt
          have hcell : wr.cell? ⟨b, o + k, none⟩ = some (.int .u8 (tl[k].toNat : Int)) := by rw [HWr.out]; exact HT5.out k hkl
          have hSk : S[k] = low tl[k] := HSk.out k hks hkl
          generalize tl[k] = c at *
          go_wp2
          go_quiet ((go_at_call 10; exact Calls.quiet_of_same (lower c _)))
          go_wp2
          go_roundw
          case rel => exact ⟨k + 1, nq0 + nq, by omega, by go_num, by rw [HWr.out, World.drewN_drewN]⟩
          case measure => simp [intOf]; omega
        · have hk64 : k = 64 := by omega
          subst hk64
          go_wp2
          go_ret
          exact ⟨rfl, by rw [HWr.out]; exact below_drewN HB5.out _⟩
end Go.Proofs.Qxb6628775aFmt
