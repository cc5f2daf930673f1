/- The walk of zzLiteral. -/
import Derived.Test.Qxb6628866aWalkL
namespace Go.Proofs.Qxb6628866a
open Go.RowKit

theorem pre_iff {t l : List UInt8} {i : Nat} : l.isPrefixOf (t.drop i) = true ↔ ∀ m, m < l.length → t[i + m]? = l[m]? := by
  rw [List.isPrefixOf_iff_prefix, List.prefix_iff_getElem?]
  constructor
  · intro h m hm
    have := h m hm
    rw [List.getElem?_drop] at this
    rw [this, List.getElem?_eq_getElem hm]
  · intro h m hm
    rw [List.getElem?_drop, h m hm, List.getElem?_eq_getElem hm]
theorem pre_no {t l : List UInt8} {i : Nat} (m : Nat) (hm : m < l.length) (h : t[i + m]? ≠ l[m]?) : l.isPrefixOf (t.drop i) = false := by
  rw [← Bool.not_eq_true, pre_iff]
  intro k
  exact h (k m hm)
theorem pre_short {t l : List UInt8} {i : Nat} (hl : 0 < l.length) (h : t.length < i + l.length) : l.isPrefixOf (t.drop i) = false := by
  refine pre_no (l.length - 1) (by omega) ?_
  rw [at_ge (by omega), List.getElem?_eq_getElem (by omega)]
  simp

set_option maxRecDepth 10000 in
set_option maxHeartbeats 1000000 in
theorem zz_lit_Null {w : World} {a : Option Addr} {t : List UInt8} {i : Nat} (h : Tm w a t) (hl : t.length ≤ 1048576) (hc : t[i]? = some 110) :
    Calls Try.prog 23 #[.slice a t.length t.length, .int .i64 (i : Int)] w fun e w' => e = .returned (.tuple #[.bool (wNull.isPrefixOf (t.drop i)), .int .i64 ((if wNull.isPrefixOf (t.drop i) = true then i + wNull.length else i : Nat) : Int)]) ∧ ∃ n, w' = w.drewN n := by
  obtain ⟨hi, hci⟩ := List.getElem?_eq_some_iff.1 hc
  obtain ⟨T, rfl, _, hcell⟩ := h.at hi
  rw [hci] at hcell
  have HT : Hid (Tm w (some ⟨T, 0, none⟩) t) := h
  have HNo : Hid (wNull.isPrefixOf (t.drop i) = false → Ending.returned (.tuple #[.bool false, .int .i64 (i : Int)]) = .returned (.tuple #[.bool (wNull.isPrefixOf (t.drop i)), .int .i64 ((if wNull.isPrefixOf (t.drop i) = true then i + wNull.length else i : Nat) : Int)])) := fun e => by rw [e]; rfl
  have HYes : Hid (wNull.isPrefixOf (t.drop i) = true → Ending.returned (.tuple #[.bool true, .int .i64 ((i : Int) + 4)]) = .returned (.tuple #[.bool (wNull.isPrefixOf (t.drop i)), .int .i64 ((if wNull.isPrefixOf (t.drop i) = true then i + wNull.length else i : Nat) : Int)])) := fun e => by rw [e]; rfl
  generalize (Value.tuple #[.bool (wNull.isPrefixOf (t.drop i)), .int .i64 ((if wNull.isPrefixOf (t.drop i) = true then i + wNull.length else i : Nat) : Int)]) = R at *
  clear h hci hc
  have hwi : IntKind.i64.wrap (i : Int) = i := IntWalk.i64_in _ (by omega)
  by_cases hs : i + 4 ≤ t.length
  · go_enter Try.func23, Try.ntmps23
    go_wp2
    have HSk : Hid (∀ (k : Nat) (h1 : k < (⟨#[110, 117, 108, 108]⟩ : ByteArray).size) (h2 : k < wNull.length), ((⟨#[110, 117, 108, 108]⟩ : ByteArray)[k]'h1) = wNull[k]) := fun k h1 h2 => rfl
    have hsz : (⟨#[110, 117, 108, 108]⟩ : ByteArray).size = 4 := rfl
    generalize (⟨#[110, 117, 108, 108]⟩ : ByteArray) = S at *
    go_loopw [7] (fun vk wr => ∃ k nq : Nat, k ≤ 4 ∧ vk = .int .i64 k ∧ Hid (wr = w.drewN nq) ∧ Hid (∀ m, m < k → t[i + m]? = wNull[m]?)) (fun vk _ => 4 - (intOf vk).toNat)
    case atStart => exact ⟨0, 0, by omega, rfl, rfl, fun m hm => by omega⟩
    case round =>
      obtain ⟨k, nq0, hk, rfl, HWr, hpre⟩ := hrel
      by_cases hkn : k < 4
      · have hik : i + k < t.length := by omega
        have hks : k < S.size := by omega
        have hkw : k < wNull.length := hkn
        have hck : wr.cell? ⟨T, i + k, none⟩ = some (.int .u8 (t[i + k].toNat : Int)) := by rw [HWr.out]; exact HT.out.cellAt hik
        have HQ : Hid (t[i + k]? = some t[i + k]) := at_lt hik
        generalize t[i + k] = x at *
        have hSk := HSk.out k hks hkw
        have hpk : wNull[k]? = some wNull[k] := List.getElem?_eq_getElem hkw
        by_cases hx : x = wNull[k]
        · have e1 : (((x.toNat : Int)) != ((S[k]'hks).toNat : Int)) = false := by rw [hSk, hx]; simp
          have HN : Hid (∀ m, m < k + 1 → t[i + m]? = wNull[m]?) := fun m hm => by
            by_cases e : m = k
            · subst e; rw [HQ.out, hx, hpk]
            · exact hpre.out m (by omega)
          clear hx hSk hpk
          go_wp2
          go_quiet (fail)
          go_wp2
          go_roundw
          case rel => exact ⟨k + 1, nq0 + nq, by omega, by go_num, by show _ = _; rw [HWr.out, World.drewN_drewN], HN⟩
          case measure => simp [intOf]; omega
        · have e1 : (((x.toNat : Int)) != ((S[k]'hks).toNat : Int)) = true := by
            rw [bne_iff_ne, hSk]
            intro e
            exact hx (by rw [← UInt8.toNat_inj]; omega)
          have HF : Hid (wNull.isPrefixOf (t.drop i) = false) := pre_no k hkw (by rw [HQ.out, hpk]; exact fun e => hx (Option.some.inj e))
          clear hx hSk hpk
          go_wp2
          go_quiet (fail)
          go_wp2
          go_ret2
          exact ⟨HNo.out HF.out, nq0 + nq, by rw [HWr.out, World.drewN_drewN]⟩
      · have hke : k = 4 := by omega
        subst hke
        have HF : Hid (wNull.isPrefixOf (t.drop i) = true) := pre_iff.2 hpre.out
        go_wp2
        go_ret2
        exact ⟨HYes.out HF.out, nq0, HWr.out⟩
  · have HF : Hid (wNull.isPrefixOf (t.drop i) = false) := pre_short (by decide) (by show t.length < i + 4; omega)
    go_enter Try.func23, Try.ntmps23
    go_wp2
    go_ret2
    exact ⟨HNo.out HF.out, 0, rfl⟩

set_option maxRecDepth 10000 in
set_option maxHeartbeats 1000000 in
theorem zz_lit_True {w : World} {a : Option Addr} {t : List UInt8} {i : Nat} (h : Tm w a t) (hl : t.length ≤ 1048576) (hc : t[i]? = some 116) :
    Calls Try.prog 23 #[.slice a t.length t.length, .int .i64 (i : Int)] w fun e w' => e = .returned (.tuple #[.bool (wTrue.isPrefixOf (t.drop i)), .int .i64 ((if wTrue.isPrefixOf (t.drop i) = true then i + wTrue.length else i : Nat) : Int)]) ∧ ∃ n, w' = w.drewN n := by
  obtain ⟨hi, hci⟩ := List.getElem?_eq_some_iff.1 hc
  obtain ⟨T, rfl, _, hcell⟩ := h.at hi
  rw [hci] at hcell
  have HT : Hid (Tm w (some ⟨T, 0, none⟩) t) := h
  have HNo : Hid (wTrue.isPrefixOf (t.drop i) = false → Ending.returned (.tuple #[.bool false, .int .i64 (i : Int)]) = .returned (.tuple #[.bool (wTrue.isPrefixOf (t.drop i)), .int .i64 ((if wTrue.isPrefixOf (t.drop i) = true then i + wTrue.length else i : Nat) : Int)])) := fun e => by rw [e]; rfl
  have HYes : Hid (wTrue.isPrefixOf (t.drop i) = true → Ending.returned (.tuple #[.bool true, .int .i64 ((i : Int) + 4)]) = .returned (.tuple #[.bool (wTrue.isPrefixOf (t.drop i)), .int .i64 ((if wTrue.isPrefixOf (t.drop i) = true then i + wTrue.length else i : Nat) : Int)])) := fun e => by rw [e]; rfl
  generalize (Value.tuple #[.bool (wTrue.isPrefixOf (t.drop i)), .int .i64 ((if wTrue.isPrefixOf (t.drop i) = true then i + wTrue.length else i : Nat) : Int)]) = R at *
  clear h hci hc
  have hwi : IntKind.i64.wrap (i : Int) = i := IntWalk.i64_in _ (by omega)
  by_cases hs : i + 4 ≤ t.length
  · go_enter Try.func23, Try.ntmps23
    go_wp2
    have HSk : Hid (∀ (k : Nat) (h1 : k < (⟨#[116, 114, 117, 101]⟩ : ByteArray).size) (h2 : k < wTrue.length), ((⟨#[116, 114, 117, 101]⟩ : ByteArray)[k]'h1) = wTrue[k]) := fun k h1 h2 => rfl
    have hsz : (⟨#[116, 114, 117, 101]⟩ : ByteArray).size = 4 := rfl
    generalize (⟨#[116, 114, 117, 101]⟩ : ByteArray) = S at *
    go_loopw [7] (fun vk wr => ∃ k nq : Nat, k ≤ 4 ∧ vk = .int .i64 k ∧ Hid (wr = w.drewN nq) ∧ Hid (∀ m, m < k → t[i + m]? = wTrue[m]?)) (fun vk _ => 4 - (intOf vk).toNat)
    case atStart => exact ⟨0, 0, by omega, rfl, rfl, fun m hm => by omega⟩
    case round =>
      obtain ⟨k, nq0, hk, rfl, HWr, hpre⟩ := hrel
      by_cases hkn : k < 4
      · have hik : i + k < t.length := by omega
        have hks : k < S.size := by omega
        have hkw : k < wTrue.length := hkn
        have hck : wr.cell? ⟨T, i + k, none⟩ = some (.int .u8 (t[i + k].toNat : Int)) := by rw [HWr.out]; exact HT.out.cellAt hik
        have HQ : Hid (t[i + k]? = some t[i + k]) := at_lt hik
        generalize t[i + k] = x at *
        have hSk := HSk.out k hks hkw
        have hpk : wTrue[k]? = some wTrue[k] := List.getElem?_eq_getElem hkw
        by_cases hx : x = wTrue[k]
        · have e1 : (((x.toNat : Int)) != ((S[k]'hks).toNat : Int)) = false := by rw [hSk, hx]; simp
          have HN : Hid (∀ m, m < k + 1 → t[i + m]? = wTrue[m]?) := fun m hm => by
            by_cases e : m = k
            · subst e; rw [HQ.out, hx, hpk]
            · exact hpre.out m (by omega)
          clear hx hSk hpk
          go_wp2
          go_quiet (fail)
          go_wp2
          go_roundw
          case rel => exact ⟨k + 1, nq0 + nq, by omega, by go_num, by show _ = _; rw [HWr.out, World.drewN_drewN], HN⟩
          case measure => simp [intOf]; omega
        · have e1 : (((x.toNat : Int)) != ((S[k]'hks).toNat : Int)) = true := by
            rw [bne_iff_ne, hSk]
            intro e
            exact hx (by rw [← UInt8.toNat_inj]; omega)
          have HF : Hid (wTrue.isPrefixOf (t.drop i) = false) := pre_no k hkw (by rw [HQ.out, hpk]; exact fun e => hx (Option.some.inj e))
          clear hx hSk hpk
          go_wp2
          go_quiet (fail)
          go_wp2
          go_ret2
          exact ⟨HNo.out HF.out, nq0 + nq, by rw [HWr.out, World.drewN_drewN]⟩
      · have hke : k = 4 := by omega
        subst hke
        have HF : Hid (wTrue.isPrefixOf (t.drop i) = true) := pre_iff.2 hpre.out
        go_wp2
        go_ret2
        exact ⟨HYes.out HF.out, nq0, HWr.out⟩
  · have HF : Hid (wTrue.isPrefixOf (t.drop i) = false) := pre_short (by decide) (by show t.length < i + 4; omega)
    go_enter Try.func23, Try.ntmps23
    go_wp2
    go_ret2
    exact ⟨HNo.out HF.out, 0, rfl⟩

set_option maxRecDepth 10000 in
set_option maxHeartbeats 1000000 in
theorem zz_lit_False {w : World} {a : Option Addr} {t : List UInt8} {i : Nat} (h : Tm w a t) (hl : t.length ≤ 1048576) (hc : t[i]? = some 102) :
    Calls Try.prog 23 #[.slice a t.length t.length, .int .i64 (i : Int)] w fun e w' => e = .returned (.tuple #[.bool (wFalse.isPrefixOf (t.drop i)), .int .i64 ((if wFalse.isPrefixOf (t.drop i) = true then i + wFalse.length else i : Nat) : Int)]) ∧ ∃ n, w' = w.drewN n := by
  obtain ⟨hi, hci⟩ := List.getElem?_eq_some_iff.1 hc
  obtain ⟨T, rfl, _, hcell⟩ := h.at hi
  rw [hci] at hcell
  have HT : Hid (Tm w (some ⟨T, 0, none⟩) t) := h
  have HNo : Hid (wFalse.isPrefixOf (t.drop i) = false → Ending.returned (.tuple #[.bool false, .int .i64 (i : Int)]) = .returned (.tuple #[.bool (wFalse.isPrefixOf (t.drop i)), .int .i64 ((if wFalse.isPrefixOf (t.drop i) = true then i + wFalse.length else i : Nat) : Int)])) := fun e => by rw [e]; rfl
  have HYes : Hid (wFalse.isPrefixOf (t.drop i) = true → Ending.returned (.tuple #[.bool true, .int .i64 ((i : Int) + 5)]) = .returned (.tuple #[.bool (wFalse.isPrefixOf (t.drop i)), .int .i64 ((if wFalse.isPrefixOf (t.drop i) = true then i + wFalse.length else i : Nat) : Int)])) := fun e => by rw [e]; rfl
  generalize (Value.tuple #[.bool (wFalse.isPrefixOf (t.drop i)), .int .i64 ((if wFalse.isPrefixOf (t.drop i) = true then i + wFalse.length else i : Nat) : Int)]) = R at *
  clear h hci hc
  have hwi : IntKind.i64.wrap (i : Int) = i := IntWalk.i64_in _ (by omega)
  by_cases hs : i + 5 ≤ t.length
  · go_enter Try.func23, Try.ntmps23
    go_wp2
    have HSk : Hid (∀ (k : Nat) (h1 : k < (⟨#[102, 97, 108, 115, 101]⟩ : ByteArray).size) (h2 : k < wFalse.length), ((⟨#[102, 97, 108, 115, 101]⟩ : ByteArray)[k]'h1) = wFalse[k]) := fun k h1 h2 => rfl
    have hsz : (⟨#[102, 97, 108, 115, 101]⟩ : ByteArray).size = 5 := rfl
    generalize (⟨#[102, 97, 108, 115, 101]⟩ : ByteArray) = S at *
    go_loopw [7] (fun vk wr => ∃ k nq : Nat, k ≤ 5 ∧ vk = .int .i64 k ∧ Hid (wr = w.drewN nq) ∧ Hid (∀ m, m < k → t[i + m]? = wFalse[m]?)) (fun vk _ => 5 - (intOf vk).toNat)
    case atStart => exact ⟨0, 0, by omega, rfl, rfl, fun m hm => by omega⟩
    case round =>
      obtain ⟨k, nq0, hk, rfl, HWr, hpre⟩ := hrel
      by_cases hkn : k < 5
      · have hik : i + k < t.length := by omega
        have hks : k < S.size := by omega
        have hkw : k < wFalse.length := hkn
        have hck : wr.cell? ⟨T, i + k, none⟩ = some (.int .u8 (t[i + k].toNat : Int)) := by rw [HWr.out]; exact HT.out.cellAt hik
        have HQ : Hid (t[i + k]? = some t[i + k]) := at_lt hik
        generalize t[i + k] = x at *
        have hSk := HSk.out k hks hkw
        have hpk : wFalse[k]? = some wFalse[k] := List.getElem?_eq_getElem hkw
        by_cases hx : x = wFalse[k]
        · have e1 : (((x.toNat : Int)) != ((S[k]'hks).toNat : Int)) = false := by rw [hSk, hx]; simp
          have HN : Hid (∀ m, m < k + 1 → t[i + m]? = wFalse[m]?) := fun m hm => by
            by_cases e : m = k
            · subst e; rw [HQ.out, hx, hpk]
            · exact hpre.out m (by omega)
          clear hx hSk hpk
          go_wp2
          go_quiet (fail)
          go_wp2
          go_roundw
          case rel => exact ⟨k + 1, nq0 + nq, by omega, by go_num, by show _ = _; rw [HWr.out, World.drewN_drewN], HN⟩
          case measure => simp [intOf]; omega
        · have e1 : (((x.toNat : Int)) != ((S[k]'hks).toNat : Int)) = true := by
            rw [bne_iff_ne, hSk]
            intro e
            exact hx (by rw [← UInt8.toNat_inj]; omega)
          have HF : Hid (wFalse.isPrefixOf (t.drop i) = false) := pre_no k hkw (by rw [HQ.out, hpk]; exact fun e => hx (Option.some.inj e))
          clear hx hSk hpk
          go_wp2
          go_quiet (fail)
          go_wp2
          go_ret2
          exact ⟨HNo.out HF.out, nq0 + nq, by rw [HWr.out, World.drewN_drewN]⟩
      · have hke : k = 5 := by omega
        subst hke
        have HF : Hid (wFalse.isPrefixOf (t.drop i) = true) := pre_iff.2 hpre.out
        go_wp2
        go_ret2
        exact ⟨HYes.out HF.out, nq0, HWr.out⟩
  · have HF : Hid (wFalse.isPrefixOf (t.drop i) = false) := pre_short (by decide) (by show t.length < i + 5; omega)
    go_enter Try.func23, Try.ntmps23
    go_wp2
    go_ret2
    exact ⟨HNo.out HF.out, 0, rfl⟩

end Go.Proofs.Qxb6628866a
