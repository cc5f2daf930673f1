/- The walk of FnPeerIDTextRoundTrip. -/
import Derived.Test.Qxb6628775aFmtWalkD
import Derived.Test.Qxb6628775aFmtPlain
import Derived.Deep.MidRow
namespace Go.Proofs.Qxb6628775aFmt
open Go.RowKit Go.Extern.Stop Go.Stop Go.Extern

theorem equal_bytes (xs ys : List UInt8) (hx : xs.length = 32) (hy : ys.length = 32) (w : World) :
    (Op.equalIn 10000 22 (.agg (cellsOf xs)) (.agg (cellsOf ys))).run Tryf.prog w = .ok (xs == ys) w :=
  run_equalIn_bytes w 9998 22 5 32 Tryf.underlying22 Tryf.underlying5 (fun w => Tryf.sizeOf5 w) xs ys hx hy

theorem info5 : (Tryf.prog.info? 5).map (fun i => (i.zero, i.size, i.bytes)) = some (some (.int .u8 0), 1, 1) := by kernel_rfl

/-- The bytes l lie at the head of block T. -/
def Txt (w : World) (T : Nat) (l : List UInt8) : Prop := ∀ j (h : j < l.length), w.cell? ⟨T, j, none⟩ = some (.int .u8 (l[j].toNat : Int))

theorem Txt.conv {w : World} {T : Nat} {l : List UInt8} (h : Txt w T l) {n : Nat} (hn : l.length = n) (cap : Nat) :
    (convert 23 9 (.slice (some ⟨T, 0, none⟩) n cap)).run Tryf.prog w = .ok (.string ⟨l.toArray⟩) w := by
  subst hn
  refine run_convert_bytes_back _ 23 9 5 ⟨T, 0, none⟩ cap l Tryf.underlying23 Tryf.underlying5 Tryf.underlying9 (fun j hj => ?_)
  rw [Addr.add_mid, Nat.zero_add]
  exact h j hj

theorem Txt.of_block {w w' : World} {T : Nat} {l : List UInt8} (h : Txt w T l) (e : w'.heap[T]? = w.heap[T]?) : Txt w' T l := fun j hj => by
  rw [World.cell?_of_block (w := w) e]
  exact h j hj

theorem Txt.of_conv (w : World) (l : List UInt8) : Txt (Lib.bytesWorld w 5 ⟨l.toArray⟩) w.heap.size l := fun j hj => by
  rw [Lib.bytesWorld_cell w 5 ⟨l.toArray⟩ j (by simpa [← ByteArray.size_data] using hj)]
  simp [List.getD, hj]

/-- A whole array read by an operation that is guarded and wanted. -/
theorem wpList_load_want {P : Program} {ops : Array Oper} {rest : List Oper} {o : Oper} {a : Act} {w : World} {Q : Exit → Act → World → Prop} (hw : Region.wanted o (yielded ops a.tmps) = true) (ty : TypeId) (x : Operand) (ho : o.op = .load ty x)
    (g : Nat) (hx : a.eval x = .pointer (some ⟨g, 0, none⟩)) (t : TypeId) (cs : Array Value) (fr : Nat × Nat) (n : Nat) (el : TypeId) (hg : w.heap[g]? = some (.cells cs t fr))
    (hu : P.underlying ty = some (.array n el)) (hi : (P.info? ty).map (·.size) = some cs.size)
    (h : wpList P ops Q rest (a.put o.dst (.agg cs)) w) : wpList P ops Q (o :: rest) a w :=
  wpList_step fun K hK => by
    rw [if_pos hw]
    exact wp_load_row ty x ho g hx t cs fr _ hg hu rfl hi (hK _ _ h)

/-- The row of the text in upper case behind k bytes. -/
def rowU (l : List UInt8) (k : Nat) : Nat → Value := fun j => if j < k then .int .u8 ((up (l.getD j 0)).toNat : Int) else .int .u8 0

theorem rowU_step (l : List UInt8) (k : Nat) (x : Int) (hx : x = ((up (l.getD k 0)).toNat : Int)) (j : Nat) : (if j = k then Value.int .u8 x else rowU l k j) = rowU l (k + 1) j := by
  unfold rowU
  by_cases h : j = k
  · subst h; rw [if_pos rfl, if_pos (by omega), hx]
  · rw [if_neg h]
    by_cases h2 : j < k
    · rw [if_pos h2, if_pos (by omega)]
    · rw [if_neg h2, if_neg (by omega)]

theorem up_in (c : UInt8) (h1 : 97 ≤ (c.toNat : Int)) (h2 : (c.toNat : Int) ≤ 102) : (c.toNat : Int) - 32 = ((up c).toNat : Int) := by
  have h := c.toNat_lt
  unfold up
  rw [if_pos (by omega), UInt8.toNat_ofNat']
  omega

theorem up_out (c : UInt8) (h : ¬ (97 ≤ (c.toNat : Int) ∧ (c.toNat : Int) ≤ 102)) : (c.toNat : Int) = ((up c).toNat : Int) := by
  unfold up
  rw [if_neg (by omega)]

theorem txt_of_rowU {w : World} {g : Nat} {l : List UInt8} (h : w.rowIs g 5 l.length (rowU l l.length)) : Txt w g (l.map up) := fun j hj => by
  have hj' : j < l.length := by simpa using hj
  rw [h.cell hj']
  unfold rowU
  rw [if_pos hj']
  simp [hj']

set_option maxHeartbeats 1000000 in
theorem round_any (la ls : List UInt8) (ev : Value) (w : World) (hla : la.length = 32) (hls : ls.length = 32) (hE : w.cell? ⟨0, 0, none⟩ = some ev) :
    Calls Tryf.prog 3 #[.agg (cellsOf la), .agg (cellsOf ls)] w fun e w' => e = .returned (.bool true) ∧ Below w.heap.size w w' := by
  have hcv := fun W => Lib.run_convert_string_bytes (P := Tryf.prog) W 9 23 5 ⟨(Lib.Hx.encode la).toArray⟩ Tryf.underlying9 Tryf.underlying23 Tryf.underlying5
  have hzs : (⟨(Lib.Hx.encode la).toArray⟩ : ByteArray).size = 64 := by simp [← ByteArray.size_data, Lib.Hx.encode_length, hla]
  rw [hzs] at hcv
  have h0 : 0 < w.heap.size := block_lt_of_cell hE
  have HEv : Hid (w.cell? ⟨0, 0, none⟩ = some ev) := hE
  clear hE
  have heq := equal_bytes la la hla hla
  rw [beq_self_eq_true] at heq
  have hsa : (cellsOf la).size = 32 := by rw [cellsOf_size, hla]
  have hss : (cellsOf ls).size = 32 := by rw [cellsOf_size, hls]
  have Hb0 : Hid (((w.alloc (.cells (cellsOf la) 22)).alloc (.cells (cellsOf ls) 22)).heap[w.heap.size]? = some (.cells (cellsOf la) 22 (0, 0))) := heap_alloc2_old _ _ _
  have Hb1 : Hid (((w.alloc (.cells (cellsOf la) 22)).alloc (.cells (cellsOf ls) 22)).heap[w.heap.size + 1]? = some (.cells (cellsOf ls) 22 (0, 0))) := heap_alloc2_new _ _ _
  go_enter Tryf.func3, Tryf.ntmps3
  go_wp2_with (first | (refine wpList_load_row rfl 22 (.tmp 2) rfl w.heap.size rfl 22 (cellsOf la) (0, 0) _ Hb0.out Tryf.underlying22 rfl (size22_of hsa) ?_))
  refine (string_any la _ hla).mono ?_
  rintro e w1 ⟨rfl, hb1⟩
  have hsz : ((w.alloc (.cells (cellsOf la) 22)).alloc (.cells (cellsOf ls) 22)).heap.size = w.heap.size + 2 := by simp
  rw [hsz] at hb1
  have hs1 := hb1.size
  rw [hsz] at hs1
  have hbw : Below w.heap.size w w1 := (((Below.refl _ _).alloc (Nat.le_refl _) _).alloc (by simp) _).trans (hb1.mono (by omega))
  have hb2 := bytesWorld_below w1 ⟨(Lib.Hx.encode la).toArray⟩
  have HT : Hid (Txt (Lib.bytesWorld w1 5 ⟨(Lib.Hx.encode la).toArray⟩) w1.heap.size (Lib.Hx.encode la)) := Txt.of_conv w1 _
  have hsz2 := Lib.bytesWorld_size w1 5 ⟨(Lib.Hx.encode la).toArray⟩
  have HA : Hid ((Lib.bytesWorld w1 5 ⟨(Lib.Hx.encode la).toArray⟩).heap[w.heap.size]? = some (.cells (cellsOf la) 22 (0, 0))) := by
    show _ = _
    rw [hb2.block _ (by omega), hb1.block _ (by omega)]; exact Hb0.out
  have HS : Hid ((Lib.bytesWorld w1 5 ⟨(Lib.Hx.encode la).toArray⟩).heap[w.heap.size + 1]? = some (.cells (cellsOf ls) 22 (0, 0))) := by
    show _ = _
    rw [hb2.block _ (by omega), hb1.block _ (by omega)]; exact Hb1.out
  have HB : Hid (Below w.heap.size w (Lib.bytesWorld w1 5 ⟨(Lib.Hx.encode la).toArray⟩)) := hbw.trans (hb2.mono (by omega))
  have hcv1 := hcv w1
  clear hcv hb1 hb2 hbw Hb0 Hb1
  generalize Lib.bytesWorld w1 5 ⟨(Lib.Hx.encode la).toArray⟩ = w2 at *
  generalize grownCap w1 64 0 5 = cp at *
  have HZ2 : Hid (w2.heap.size = w1.heap.size + 1) := hsz2
  have hz2 : w1.heap.size < w2.heap.size := by omega
  clear hsz2 hsz
  go_wp2_with (first
    | (refine wpList_load_row rfl 22 (.tmp 3) rfl (w.heap.size + 1) rfl 22 (cellsOf ls) (0, 0) _ HS.out Tryf.underlying22 rfl (size22_of hss) ?_)
    | (refine wpList_store_fresh rfl 24 (.tmp 6) (.tmp 19) rfl (cellsOf ls) _ rfl rfl (size24_of hss) (by rw [hss]; rfl) (cellsOf_one ls) ?_))
  have hlt1 : w1.heap.size < w2.heap.size := hz2
  have HT2 : Hid (Txt (w2.alloc (.cells (cellsOf ls) 24)) w1.heap.size (Lib.Hx.encode la)) := HT.out.of_block (Below.heap_alloc _ _ _ hlt1)
  have hel : (Lib.Hx.encode la).length = 64 := by rw [Lib.Hx.encode_length, hla]
  have hE2 : (w2.alloc (.cells (cellsOf ls) 24)).cell? ⟨0, 0, none⟩ = some ev := by
    rw [(HB.out.alloc HB.out.size _).cell (p := ⟨0, 0, none⟩) h0]; exact HEv.out
  have hu := unmarshal_ok w2.heap.size (cellsOf ls) (some ⟨w1.heap.size, 0, none⟩) 64 cp ⟨(Lib.Hx.encode la).toArray⟩ la ev (w2.alloc (.cells (cellsOf ls) 24)) hzs (decode_encode la) hla hE2 (HT2.out.conv hel cp) (heap_alloc_new _ _) hss (by simp)
  refine hu.mono ?_
  rintro e w3 ⟨rfl, hid3, hgr3⟩
  have hs3 := hgr3.size
  have hs3' : w2.heap.size + 1 ≤ w3.heap.size := by simpa using hs3
  have HT3 : Hid (Txt w3 w1.heap.size (Lib.Hx.encode la)) := HT2.out.of_block (hgr3.block _ (by simp; omega) (by simp; omega))
  have HA3 : Hid (w3.heap[w.heap.size]? = some (.cells (cellsOf la) 22 (0, 0))) := by
    show _ = _
    rw [hgr3.block _ (by simp; omega) (by simp; omega), Below.heap_alloc _ _ _ (by omega)]; exact HA.out
  have HS3 : Hid (w3.heap[w.heap.size + 1]? = some (.cells (cellsOf ls) 22 (0, 0))) := by
    show _ = _
    rw [hgr3.block _ (by simp; omega) (by simp; omega), Below.heap_alloc _ _ _ (by omega)]; exact HS.out
  have HI3 : Hid (w3.heap[w2.heap.size]? = some (.cells (cellsOf la) 24 (0, 0))) := hid3
  have HB3 : Hid (Below w.heap.size w w3) := (HB.out.alloc HB.out.size _).grown hgr3 (by simp; omega) (fun k hk => by simp at hk; omega)
  clear hu hid3 hgr3 hs3 HT HT2 HA HS HB hE2 hcv1
  have hmk := run_make_row' (P := Tryf.prog) 23 5 (.int .u8 0) 1 Tryf.underlying23 info5 rfl .i64 .i64 64 (by omega) (by omega)
  rw [show ((64 : Nat) : Int) = 64 from rfl] at hmk
  go_wp2_with (first
    | (refine wpList_load_row rfl 24 (.tmp 6) rfl w2.heap.size rfl 24 (cellsOf la) (0, 0) _ HI3.out Tryf.underlying24 rfl (size24_of hsa) ?_)
    | (refine wpList_load_row rfl 22 (.tmp 2) rfl w.heap.size rfl 22 (cellsOf la) (0, 0) _ HA3.out Tryf.underlying22 rfl (size22_of hsa) ?_))
  have hmap : ((Lib.Hx.encode la).map up).length = 64 := by rw [List.length_map, hel]
  have Hdec : Hid (Lib.Hx.decode ((Lib.Hx.encode la).map up) = (la, .ok)) := decode_up la
  have HEL : Hid ((Lib.Hx.encode la).length = 64) := hel
  have HMP : Hid (((Lib.Hx.encode la).map up).length = 64) := hmap
  clear hel hmap hzs heq hmk
  go_loopw [9] (fun vi wr => ∃ k : Nat, k ≤ 64 ∧ vi = .int .i64 k ∧ Hid (wr.rowIs w3.heap.size 5 64 (rowU (Lib.Hx.encode la) k)) ∧ Hid (Below w3.heap.size w3 wr)) (fun vi _ => 64 - (intOf vi).toNat)
  case atStart => exact ⟨0, Nat.zero_le _, rfl, (World.rowIs_made _ _ _ _).congr (fun j _ => by simp [rowU]), (Below.refl _ _).alloc (Nat.le_refl _) _⟩
  case round =>
    obtain ⟨k, hk, rfl, hrow, hbel⟩ := hrel
    by_cases hlt : k < 64
    · have hkl : k < (Lib.Hx.encode la).length := by rw [HEL.out]; exact hlt
      have hcell : wr.cell? ⟨w1.heap.size, k, none⟩ = some (.int .u8 ((Lib.Hx.encode la)[k].toNat : Int)) := (hbel.out.cell (p := ⟨w1.heap.size, k, none⟩) (by show w1.heap.size < _; omega)).trans (HT3.out k hkl)
      have hf1 : wr.frozen? ⟨w3.heap.size, k, none⟩ = false := hrow.out.frozen _
      have hc1 : wr.cell? ⟨w3.heap.size, k, none⟩ = some (rowU (Lib.Hx.encode la) k k) := hrow.out.cell hlt
      have HX : Hid ((Lib.Hx.encode la).getD k 0 = (Lib.Hx.encode la)[k]) := by show _ = _; simp [hkl]
      generalize (Lib.Hx.encode la)[k] = c at *
      have hc9 := c.toNat_lt
      have hup1 := up_in c
      have hup2 := up_out c
      have HU1 : Hid (97 ≤ (c.toNat : Int) → (c.toNat : Int) ≤ 102 → (c.toNat : Int) - 32 = ((up c).toNat : Int)) := hup1
      have HU2 : Hid (¬ (97 ≤ (c.toNat : Int) ∧ (c.toNat : Int) ≤ 102) → (c.toNat : Int) = ((up c).toNat : Int)) := hup2
      clear hup1 hup2 hkl
      by_cases hr1 : 97 ≤ (c.toNat : Int)
      · by_cases hr2 : (c.toNat : Int) ≤ 102
        · go_wp2
          go_roundw
          case rel => exact ⟨k + 1, by omega, by go_num, (hrow.out.set k _).congr (fun j _ => rowU_step _ _ _ (by rw [HX.out]; exact HU1.out hr1 hr2) j), hbel.out.setCell (Nat.le_refl _) _⟩
          case measure => simp [intOf]; omega
        · go_wp2
          go_roundw
          case rel => exact ⟨k + 1, by omega, by go_num, (hrow.out.set k _).congr (fun j _ => rowU_step _ _ _ (by rw [HX.out]; exact HU2.out (by omega)) j), hbel.out.setCell (Nat.le_refl _) _⟩
          case measure => simp [intOf]; omega
      · go_wp2
        go_roundw
        case rel => exact ⟨k + 1, by omega, by go_num, (hrow.out.set k _).congr (fun j _ => rowU_step _ _ _ (by rw [HX.out]; exact HU2.out (by omega)) j), hbel.out.setCell (Nat.le_refl _) _⟩
        case measure => simp [intOf]; omega
    · have hk64 : k = 64 := by omega
      subst hk64
      have hs4 := hbel.out.size
      have hlt4 := hrow.out.lt
      have HTU : Hid (Txt wr w3.heap.size ((Lib.Hx.encode la).map up)) := txt_of_rowU (by rw [HEL.out]; exact hrow.out)
      have HS4 : Hid (wr.heap[w.heap.size + 1]? = some (.cells (cellsOf ls) 22 (0, 0))) := by show _ = _; rw [hbel.out.block _ (by omega)]; exact HS3.out
      have HA4 : Hid (wr.heap[w.heap.size]? = some (.cells (cellsOf la) 22 (0, 0))) := by show _ = _; rw [hbel.out.block _ (by omega)]; exact HA3.out
      have HB4 : Hid (Below w.heap.size w wr) := HB3.out.trans (hbel.out.mono (by omega))
      clear hrow hbel HS3 HA3 HB3 HT3
      go_wp2_with (first
        | (refine wpList_load_row rfl 22 (.tmp 3) rfl (w.heap.size + 1) rfl 22 (cellsOf ls) (0, 0) _ HS4.out Tryf.underlying22 rfl (size22_of hss) ?_)
        | (refine wpList_store_fresh rfl 24 (.tmp 11) (.tmp 52) rfl (cellsOf ls) _ rfl rfl (size24_of hss) (by rw [hss]; rfl) (cellsOf_one ls) ?_))
      have HT5 : Hid (Txt (wr.alloc (.cells (cellsOf ls) 24)) w3.heap.size ((Lib.Hx.encode la).map up)) := HTU.out.of_block (Below.heap_alloc _ _ _ hlt4)
      have hE2 : (wr.alloc (.cells (cellsOf ls) 24)).cell? ⟨0, 0, none⟩ = some ev := by
        rw [(HB4.out.alloc HB4.out.size _).cell (p := ⟨0, 0, none⟩) h0]; exact HEv.out
      have hu := unmarshal_ok wr.heap.size (cellsOf ls) (some ⟨w3.heap.size, 0, none⟩) 64 64 ⟨((Lib.Hx.encode la).map up).toArray⟩ la ev (wr.alloc (.cells (cellsOf ls) 24)) (by simpa [← ByteArray.size_data] using HMP.out) Hdec.out hla hE2 (HT5.out.conv HMP.out 64) (heap_alloc_new _ _) hss (by simp)
      refine hu.mono ?_
      rintro e w5 ⟨rfl, hid5, hgr5⟩
      have HI5 : Hid (w5.heap[wr.heap.size]? = some (.cells (cellsOf la) 24 (0, 0))) := hid5
      have HA5 : Hid (w5.heap[w.heap.size]? = some (.cells (cellsOf la) 22 (0, 0))) := by
        show _ = _
        rw [hgr5.block _ (by simp; omega) (by simp; omega), Below.heap_alloc _ _ _ (by omega)]; exact HA4.out
      have HB5 : Hid (Below w.heap.size w w5) := (HB4.out.alloc HB4.out.size _).grown hgr5 (by simp; omega) (fun k hk => by simp at hk; omega)
      clear hu hid5 hgr5 HT5 hE2 HTU HS4 HA4 HB4
      have heq := equal_bytes la la hla hla
      rw [beq_self_eq_true] at heq
      go_wp2_with (first
        | (refine wpList_load_want rfl 24 (.tmp 11) rfl wr.heap.size rfl 24 (cellsOf la) (0, 0) 32 5 HI5.out Tryf.underlying24 (size24_of hsa) ?_)
        | (refine wpList_load_want rfl 22 (.tmp 2) rfl w.heap.size rfl 22 (cellsOf la) (0, 0) 32 5 HA5.out Tryf.underlying22 (size22_of hsa) ?_))
      go_ret
      exact ⟨rfl, HB5.out⟩
end Go.Proofs.Qxb6628775aFmt
