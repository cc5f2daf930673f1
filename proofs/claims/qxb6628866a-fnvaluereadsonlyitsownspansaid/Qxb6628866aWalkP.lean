/- The walks of zzJoin, ZZnewWalk, ZZwalkPos, ZZwalkDepth, the byte bounds. -/
import Derived.Test.Qxb6628866aWalkO
namespace Go.Proofs.Qxb6628866a
open Go.RowKit

set_option maxHeartbeats 800000 in
theorem zz_join {w : World} {a b : Option Addr} {s t : List UInt8} (hs : Tm w a s) (ht : Tm w b t) (hl : s.length + t.length ≤ 1048576) :
    Calls Try.prog 13 #[.slice a s.length s.length, .slice b t.length t.length] w fun e w' => ∃ a', e = .returned (.slice a' (s ++ t).length (s ++ t).length) ∧ Tm w' a' (s ++ t) ∧ Below w.heap.size w w' := by
  have HS : Hid (Tm w a s) := hs
  have HT : Hid (Tm w b t) := ht
  have hlen : (s ++ t).length = s.length + t.length := List.length_append
  have hmk := run_make_row' (P := Try.prog) 22 5 (.int .u8 0) 1 Try.underlying22 infoB rfl .i64 .i64 (s.length + t.length) (by omega) (by omega)
  rw [Int.natCast_add] at hmk
  clear hs ht
  go_enter Try.func13, Try.ntmps13
  go_wp2
  clear hmk
  go_loopw [6] (fun i wr => ∃ k : Nat, k ≤ s.length ∧ i = .int .i64 k ∧ Hid (wr.rowIs w.heap.size 5 (s.length + t.length) (rowC (s ++ t) k)) ∧ Hid (Below w.heap.size w wr)) (fun i _ => s.length - (intOf i).toNat)
  case atStart => exact ⟨0, Nat.zero_le _, rfl, (World.rowIs_made _ _ _ _).congr (fun j _ => by simp [rowC]), (Below.refl _ _).alloc (Nat.le_refl _) _⟩
  case round =>
    obtain ⟨k, hk, rfl, hrow, hbel⟩ := hrel
    by_cases hlt : k < s.length
    · obtain ⟨T, rfl, hTl, hcell0⟩ := HS.out.at hlt
      have hcell : wr.cell? ⟨T, k, none⟩ = some (.int .u8 (s[k].toNat : Int)) := (hbel.out.cell (p := ⟨T, k, none⟩) hTl).trans hcell0
      have hf1 : wr.frozen? ⟨w.heap.size, k, none⟩ = false := hrow.out.frozen _
      have hc1 : wr.cell? ⟨w.heap.size, k, none⟩ = some (rowC (s ++ t) k k) := hrow.out.cell (by omega)
      have HG : Hid ((s ++ t).getD k 0 = s[k]) := by show _ = _; rw [List.getD_eq_getElem?_getD, List.getElem?_append_left hlt, at_lt hlt]; rfl
      clear hcell0
      generalize s[k] = c at *
      go_wp2
      go_roundw
      case rel => exact ⟨k + 1, by omega, by go_num, (hrow.out.set k _).congr (fun j _ => rowC_step HG.out j), hbel.out.setCell (Nat.le_refl _) _⟩
      case measure => simp [intOf]; omega
    · have hke : k = s.length := by omega
      subst hke
      go_wp2
      go_loopw [7] (fun i wr => ∃ k : Nat, k ≤ t.length ∧ i = .int .i64 k ∧ Hid (wr.rowIs w.heap.size 5 (s.length + t.length) (rowC (s ++ t) (s.length + k))) ∧ Hid (Below w.heap.size w wr)) (fun i _ => t.length - (intOf i).toNat)
      case atStart => exact ⟨0, Nat.zero_le _, rfl, hrow, hbel⟩
      case round =>
        clear hrow hbel
        obtain ⟨k, hk, rfl, hrow, hbel⟩ := hrel
        by_cases hlt2 : k < t.length
        · obtain ⟨T, rfl, hTl, hcell0⟩ := HT.out.at hlt2
          have hcell : wr.cell? ⟨T, k, none⟩ = some (.int .u8 (t[k].toNat : Int)) := (hbel.out.cell (p := ⟨T, k, none⟩) hTl).trans hcell0
          have hf1 : wr.frozen? ⟨w.heap.size, s.length + k, none⟩ = false := hrow.out.frozen _
          have hc1 : wr.cell? ⟨w.heap.size, s.length + k, none⟩ = some (rowC (s ++ t) (s.length + k) (s.length + k)) := hrow.out.cell (by omega)
          have HG : Hid ((s ++ t).getD (s.length + k) 0 = t[k]) := by
            show _ = _
            rw [List.getD_eq_getElem?_getD, List.getElem?_append_right (by omega), Nat.add_sub_cancel_left, at_lt hlt2]; rfl
          clear hcell0
          generalize t[k] = c at *
          go_wp2
          go_roundw
          case rel => exact ⟨k + 1, by omega, by go_num, (hrow.out.set (s.length + k) _).congr (fun j _ => rowC_step HG.out j), hbel.out.setCell (Nat.le_refl _) _⟩
          case measure => simp [intOf]; omega
        · have hke : k = t.length := by omega
          subst hke
          have HF : Hid (Tm wr (some ⟨w.heap.size, 0, none⟩) (s ++ t)) := .inr ⟨w.heap.size, rfl, hrow.out.lt, fun j hj => (hrow.out.cell (by omega)).trans (by rw [← hlen, rowC_at hj])⟩
          go_wp2
          go_ret
          exact ⟨some ⟨w.heap.size, 0, none⟩, by rw [hlen]; rfl, HF.out, hbel.out⟩

theorem Tm.tx {w w' : World} {a : Option Addr} {t : List UInt8} (h : Tm w a t) (g : Below w.heap.size w w') : Tx w' w.heap.size a t := by
  rcases h with rfl | ⟨T, e, h2, h3⟩
  · exact .inl rfl
  · exact .inr ⟨T, e, by omega, Nat.lt_of_lt_of_le h2 g.size, fun j hj => by rw [World.cell?_of_block (w := w) (g.block T h2)]; exact h3 j hj⟩
/-- ZZnewWalk -/
theorem zz_new {w : World} {a : Option Addr} {t : List UInt8} {i d : Nat} (h : Tm w a t) (hl : t.length ≤ 1048576) (hi : i ≤ t.length) (hd : d ≤ 10000) :
    Calls Try.prog 7 #[.slice a t.length t.length, .int .i64 (i : Int), .int .i64 (d : Int)] w fun e w' => e = .returned (.pointer (some ⟨w.heap.size, 0, none⟩)) ∧ St w' w.heap.size a t i d ∧ Below w.heap.size w w' := by
  have HT : Hid (Tm w a t) := h
  clear h
  go_enter Try.func7, Try.ntmps7
  go_wp2
  go_ret
  exact ⟨rfl, ⟨heap_alloc_new _ _, Tm.tx HT.out ((Below.refl _ _).alloc (Nat.le_refl _) _), hl, hi, by omega⟩, (Below.refl _ _).alloc (Nat.le_refl _) _⟩
theorem zz_pos {w : World} {X : Nat} {a : Option Addr} {t : List UInt8} {i d : Nat} (h : St w X a t i d) :
    Calls Try.prog 9 #[.pointer (some ⟨X, 0, none⟩)] w fun e w' => e = .returned (.int .i64 (i : Int)) ∧ w = w' := by
  have g1 := h.c1
  clear h
  go_enter Try.func9, Try.ntmps9
  go_wp2
  go_ret
  exact ⟨rfl, rfl⟩
theorem zz_depth {w : World} {X : Nat} {a : Option Addr} {t : List UInt8} {i d : Nat} (h : St w X a t i d) :
    Calls Try.prog 10 #[.pointer (some ⟨X, 0, none⟩)] w fun e w' => e = .returned (.int .i64 (d : Int)) ∧ w = w' := by
  have g2 := h.c2
  clear h
  go_enter Try.func10, Try.ntmps10
  go_wp2
  go_ret
  exact ⟨rfl, rfl⟩

theorem zz_bytes {w : World} {a : Option Addr} {n c : Nat} (i d : Int) (hn : n ≤ 9223372036854775807) :
    Calls Try.prog 5 #[.slice a n c, .int .i64 i, .int .i64 d] w fun e w' => e = .returned (.bool (decide (n ≤ 1048576))) ∧ w = w' := by
  by_cases h : n ≤ 1048576
  · rw [decide_eq_true h]
    go_enter Try.func5, Try.ntmps5
    go_wp2
    go_ret
    exact ⟨rfl, rfl⟩
  · rw [decide_eq_false h]
    go_enter Try.func5, Try.ntmps5
    go_wp2
    go_ret
    exact ⟨rfl, rfl⟩
theorem zz_bytes2 {w : World} {a b : Option Addr} {n c n2 c2 : Nat} (i d : Int) (hn : n ≤ 9223372036854775807) (hn2 : n2 ≤ 9223372036854775807) :
    Calls Try.prog 12 #[.slice a n c, .slice b n2 c2, .int .i64 i, .int .i64 d] w fun e w' => e = .returned (.bool (decide (n + n2 ≤ 1048576))) ∧ w = w' := by
  by_cases h : n ≤ 1048576
  · by_cases h2 : n2 ≤ 1048576
    · by_cases h3 : n + n2 ≤ 1048576
      · rw [decide_eq_true h3]
        go_enter Try.func12, Try.ntmps12
        go_wp2
        go_ret
        exact ⟨rfl, rfl⟩
      · rw [decide_eq_false h3]
        go_enter Try.func12, Try.ntmps12
        go_wp2
        go_ret
        exact ⟨rfl, rfl⟩
    · rw [decide_eq_false (by omega)]
      go_enter Try.func12, Try.ntmps12
      go_wp2
      go_ret
      exact ⟨rfl, rfl⟩
  · rw [decide_eq_false (by omega)]
    go_enter Try.func12, Try.ntmps12
    go_wp2
    go_ret
    exact ⟨rfl, rfl⟩
end Go.Proofs.Qxb6628866a
