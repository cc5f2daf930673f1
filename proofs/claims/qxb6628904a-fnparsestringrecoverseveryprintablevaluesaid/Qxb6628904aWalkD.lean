/- The walk of FnParseStringRecoversEveryPrintableValue. -/
import Derived.Test.Qxb6628904aWalkB
namespace Go.Proofs.Qxb6628904a
open Go.RowKit

theorem zz_bytes3 {w : World} (x : Int) (V T : ByteArray) (hV : V.size ≤ 9223372036854775807) (hT : T.size ≤ 9223372036854775807) :
    Calls Try.prog 8 #[.int .u8 x, .string V, .string T] w fun e w' => e = .returned (.bool (decide (V.size + T.size ≤ 1048576))) ∧ w = w' := by
  by_cases h : V.size ≤ 1048576
  · by_cases h2 : T.size ≤ 1048576
    · by_cases h3 : V.size + T.size ≤ 1048576
      · rw [decide_eq_true h3]
        go_enter Try.func8, Try.ntmps8
        go_wp2
        go_ret
        exact ⟨rfl, rfl⟩
      · rw [decide_eq_false h3]
        go_enter Try.func8, Try.ntmps8
        go_wp2
        go_ret
        exact ⟨rfl, rfl⟩
    · rw [decide_eq_false (by omega)]
      go_enter Try.func8, Try.ntmps8
      go_wp2
      go_ret
      exact ⟨rfl, rfl⟩
  · rw [decide_eq_false (by omega)]
    go_enter Try.func8, Try.ntmps8
    go_wp2
    go_ret
    exact ⟨rfl, rfl⟩

/-- The loop: the buffer holds the first byte and the value's first k bytes with their escapes. -/
structure BS (w wr : World) (f : UInt8) (V : ByteArray) (k b cap : Nat) (out : List UInt8) : Prop where
  own : wr.ownsRow w.heap.size 5 1 (.slice (some ⟨b, 0, none⟩) out.length cap) out.length (Lib.byteCells out)
  bel : Below w.heap.size w wr
  out : out = f :: escL ((bl V).take k)

theorem escL_snoc (l : List UInt8) (c : UInt8) : escL (l ++ [c]) = escL l ++ escOne c := by simp [escL]
theorem take_snoc {V : ByteArray} {k : Nat} (h : k < V.size) : (bl V).take (k + 1) = (bl V).take k ++ [V[k]] := by
  exact List.take_succ_eq_append_getElem (l := bl V) h
theorem esc_len : ∀ (l : List UInt8), (escL l).length ≤ 2 * l.length
  | [] => by simp [escL]
  | c :: l => by
    have := esc_len l
    have e : escL (c :: l) = escOne c ++ escL l := by simp [escL]
    rw [e, List.length_append, List.length_cons]
    have h2 : (escOne c).length ≤ 2 := by unfold escOne; split <;> simp
    omega
theorem BS.len {w wr : World} {f : UInt8} {V : ByteArray} {k b cap : Nat} {out : List UInt8} (h : BS w wr f V k b cap out) : out.length ≤ 2 * k + 1 := by
  rw [h.out]
  have := esc_len ((bl V).take k)
  have h2 : ((bl V).take k).length ≤ k := List.length_take_le _ _
  simp only [List.length_cons]
  omega

theorem bl_mk (l : List UInt8) : bl ⟨l.toArray⟩ = l := rfl
theorem mk_bl (V : ByteArray) : (⟨(bl V).toArray⟩ : ByteArray) = V := by
  apply ByteArray.ext
  simp [bl]
theorem bl_app (S T : ByteArray) : bl (S ++ T) = bl S ++ bl T := by
  unfold bl
  rw [ByteArray.data_append, Array.toList_append]
theorem own_str1 {w : World} {base g cap : Nat} {l : List UInt8} {c : UInt8} (h : w.ownsRow base 5 1 (.slice (some ⟨g, 0, none⟩) (l.length + 1) cap) (l.length + 1) (Lib.byteCells (l ++ [c]))) :
    (convert 30 9 (.slice (some ⟨g, 0, none⟩) (l.length + 1) cap)).run Try.prog w = .ok (.string ⟨(l ++ [c]).toArray⟩) w := by
  have e : (l ++ [c]).length = l.length + 1 := by simp
  have := own_string (l := l ++ [c]) (w := w) (base := base) (g := g) (cap := cap) (by rw [e]; exact h)
  rwa [e] at this
theorem size_mk (l : List UInt8) : (⟨l.toArray⟩ : ByteArray).size = l.length := by simp [← ByteArray.size_data]

set_option maxRecDepth 10000 in
set_option maxHeartbeats 4000000 in
theorem law_value_main {w : World} (f : UInt8) (V T : ByteArray) (hV : V.size ≤ 262144) (hT : T.size ≤ 262144) :
    Calls Try.prog 4 #[.int .u8 (f.toNat : Int), .string V, .string T] w fun e w' => e = .returned (.bool true) ∧ Below w.heap.size w w' := by
  obtain ⟨inf, hi5, hz0, hz1, hz2⟩ := info_parts infoB
  have hb := zz_bytes3 (w := w) (f.toNat : Int) V T (by omega) (by omega)
  rw [decide_eq_true (by omega)] at hb
  have HBy : Hid (Calls Try.prog 8 #[.int .u8 (f.toNat : Int), .string V, .string T] w fun e w' => e = .returned (.bool true) ∧ w = w') := hb
  clear hb
  go_enter Try.func4, Try.ntmps4
  go_wp2_with (first | (go_at_call 8; refine HBy.out.mono ?_; rintro e w' ⟨rfl, rfl⟩) | (at_make; refine wpList_make_own _ rfl _ _ 30 rfl w.heap.size 5 inf (.int .u8 0) 1 Try.underlying30 hi5 hz0 hz1 _ _ _ (2 * V.size + 2) rfl rfl (by omega) (by rw [hz2]; omega) (by unfold maxLen; omega) (Nat.le_refl _) ?_))
  intro w1 hown hgrow
  have HO1 : Hid (w1.ownsRow w.heap.size 5 1 (.slice (some ⟨w.heap.size, 0, none⟩) 0 (2 * V.size + 2)) 0 (Lib.byteCells [])) := hown
  have HB1 : Hid (Below w.heap.size w w1) := (Below.refl _ _).grown hgrow (Nat.le_refl _) (fun k hk => by cases hk)
  have hbs1 := HB1.out.size
  have HG1 : Hid (w.heap.size ≤ w.heap.size) := Nat.le_refl _
  clear hown hgrow
  go_wp2_with (first | (at_builtin; refine wpList_append_own _ rfl _ _ 30 rfl w.heap.size 5 inf (.int .u8 0) 1 1 Try.underlying30 hi5 hz0 hz1 hz2 rfl (by decide) _ _ _ rfl (HO1.out.alloc _) ⟨w1.heap.size, 0, none⟩ 1 1 [.int .u8 (f.toNat : Int)] rfl rfl (cell_one_new _ _ _) (fun x hx => by simp at hx; subst hx; rfl) (by unfold maxLen; omega) (by omega) (by simp; omega) ?_; intro v2 w2 hown2 hgrow2 hnil2; obtain ⟨b2, cap2, hv2, hg2⟩ := owned_form2 hown2; subst hv2; have HO2 : Hid (w2.ownsRow w.heap.size 5 1 (.slice (some ⟨b2, 0, none⟩) (0 + 1) cap2) (0 + 1) (Lib.byteCells ([] ++ [f]))) := (by rw [Lib.byteCells_append]; exact hown2 : w2.ownsRow w.heap.size 5 1 (.slice (some ⟨b2, 0, none⟩) (0 + 1) cap2) (0 + 1) (Lib.byteCells ([] ++ [f]))); have HB2 : Hid (Below w.heap.size w w2) := (HB1.out.alloc hbs1 _).grown hgrow2 (by simp; omega) (fun k hk => by cases hk; exact HG1.out); have hbs2 := HB2.out.size; have HG2 : Hid (w.heap.size ≤ b2) := hg2; clear hown2 hgrow2 hnil2 hg2))
  have HR2 : Hid (BS w w2 f V 0 b2 cap2 [f]) := ⟨HO2.out, HB2.out, by simp [escL]⟩
  clear HO1 HB1 HG1 HO2 HB2 HG2 hbs1 hbs2
  go_loopw [7, 8, 9] (fun vo vp vk wr => ∃ (k b cap : Nat) (out : List UInt8), k ≤ V.size ∧ vo = .slice (some ⟨b, 0, none⟩) out.length cap ∧ vp = .bool (((bl V).take k).all pri) ∧ vk = .int .i64 k ∧ Hid (BS w wr f V k b cap out)) (fun _ _ vk _ => V.size - (intOf vk).toNat)
  case atStart => exact ⟨0, b2, cap2, [f], by omega, rfl, by simp, rfl, HR2⟩
  case round =>
    obtain ⟨k, b, cap, out, hk, rfl, rfl, rfl, HR⟩ := hrel
    clear HR2
    have HO3 : Hid (wr.ownsRow w.heap.size 5 1 (.slice (some ⟨b, 0, none⟩) out.length cap) out.length (Lib.byteCells out)) := HR.out.own
    have HB3 : Hid (Below w.heap.size w wr) := HR.out.bel
    have hbs3 := HR.out.bel.size
    have hol := HR.out.len
    have HG3 : Hid (w.heap.size ≤ b) := (HR.out.own.lt b rfl).1
    by_cases hlt : k < V.size
    · have HP : Hid (Calls Try.prog 9 #[.int .u8 (V[k].toNat : Int)] wr fun e w' => e = .returned (.bool (pri V[k])) ∧ wr = w') := zz_pri V[k]
      have HAl : Hid (((bl V).take (k + 1)).all pri = (((bl V).take k).all pri && pri V[k])) := by show _ = _; rw [take_snoc hlt, List.all_append]; simp
      have HEs : Hid (escL ((bl V).take (k + 1)) = escL ((bl V).take k) ++ escOne V[k]) := by show _ = _; rw [take_snoc hlt, escL_snoc]
      generalize ((bl V).take k).all pri = P at *
      cases hq : qb V[k]
      · have HE1 : Hid (escOne V[k] = [V[k]]) := by show _ = _; unfold escOne; rw [if_neg (by rw [hq]; simp)]
        have hq2 : (((V[k].toNat : Int)) == 34) = false ∧ (((V[k].toNat : Int)) == 92) = false := by
          rw [show (34 : Int) = ((34 : Nat) : Int) from rfl, show (92 : Int) = ((92 : Nat) : Int) from rfl, u8_is 34 (by omega), u8_is 92 (by omega)]
          simpa [qb, Bool.or_eq_false_iff] using hq
        obtain ⟨e1, e2⟩ := hq2
        clear hq
        cases hp : pri V[k]
        · rw [hp] at HP HAl
          clear hp
          go_wp2_with (first | (go_at_call 9; refine HP.out.mono ?_; rintro e w' ⟨rfl, rfl⟩) | (at_builtin; refine wpList_append_own _ rfl _ _ 30 rfl w.heap.size 5 inf (.int .u8 0) 1 1 Try.underlying30 hi5 hz0 hz1 hz2 rfl (by decide) _ _ _ rfl (HO3.out.alloc _) ⟨wr.heap.size, 0, none⟩ 1 1 [.int .u8 (V[k].toNat : Int)] rfl rfl (cell_one_new _ _ _) (fun x hx => by simp at hx; subst hx; rfl) (by unfold maxLen; omega) (by omega) (by simp; omega) ?_; intro v4 w4 hown4 hgrow4 hnil4; obtain ⟨b4, cap4, hv4, hg4⟩ := owned_form2 hown4; subst hv4; have HO4 : Hid (w4.ownsRow w.heap.size 5 1 (.slice (some ⟨b4, 0, none⟩) (out.length + 1) cap4) (out.length + 1) (Lib.byteCells (out ++ [V[k]]))) := (by rw [Lib.byteCells_append]; exact hown4 : w4.ownsRow w.heap.size 5 1 (.slice (some ⟨b4, 0, none⟩) (out.length + 1) cap4) (out.length + 1) (Lib.byteCells (out ++ [V[k]]))); have HB4 : Hid (Below w.heap.size w w4) := (HB3.out.alloc hbs3 _).grown hgrow4 (by simp; omega) (fun k hk => by cases hk; exact HG3.out); have hbs4 := HB4.out.size; have HG4 : Hid (w.heap.size ≤ b4) := hg4; clear hown4 hgrow4 hnil4 hg4))
          go_roundw
          case rel => exact ⟨k + 1, b4, cap4, out ++ [V[k]], by omega, by simp, by rw [HAl.out]; simp, by go_num, ⟨by rw [List.length_append]; exact HO4.out, HB4.out, by rw [HR.out.out, HEs.out, HE1.out]; rfl⟩⟩
          case measure => simp [intOf]; omega
        · rw [hp] at HP HAl
          clear hp
          go_wp2_with (first | (go_at_call 9; refine HP.out.mono ?_; rintro e w' ⟨rfl, rfl⟩) | (at_builtin; refine wpList_append_own _ rfl _ _ 30 rfl w.heap.size 5 inf (.int .u8 0) 1 1 Try.underlying30 hi5 hz0 hz1 hz2 rfl (by decide) _ _ _ rfl (HO3.out.alloc _) ⟨wr.heap.size, 0, none⟩ 1 1 [.int .u8 (V[k].toNat : Int)] rfl rfl (cell_one_new _ _ _) (fun x hx => by simp at hx; subst hx; rfl) (by unfold maxLen; omega) (by omega) (by simp; omega) ?_; intro v4 w4 hown4 hgrow4 hnil4; obtain ⟨b4, cap4, hv4, hg4⟩ := owned_form2 hown4; subst hv4; have HO4 : Hid (w4.ownsRow w.heap.size 5 1 (.slice (some ⟨b4, 0, none⟩) (out.length + 1) cap4) (out.length + 1) (Lib.byteCells (out ++ [V[k]]))) := (by rw [Lib.byteCells_append]; exact hown4 : w4.ownsRow w.heap.size 5 1 (.slice (some ⟨b4, 0, none⟩) (out.length + 1) cap4) (out.length + 1) (Lib.byteCells (out ++ [V[k]]))); have HB4 : Hid (Below w.heap.size w w4) := (HB3.out.alloc hbs3 _).grown hgrow4 (by simp; omega) (fun k hk => by cases hk; exact HG3.out); have hbs4 := HB4.out.size; have HG4 : Hid (w.heap.size ≤ b4) := hg4; clear hown4 hgrow4 hnil4 hg4))
          go_roundw
          case rel => exact ⟨k + 1, b4, cap4, out ++ [V[k]], by omega, by simp, by rw [HAl.out]; simp, by go_num, ⟨by rw [List.length_append]; exact HO4.out, HB4.out, by rw [HR.out.out, HEs.out, HE1.out]; rfl⟩⟩
          case measure => simp [intOf]; omega
      · have HE1 : Hid (escOne V[k] = [92, V[k]]) := by show _ = _; unfold escOne; rw [if_pos hq]
        have hp : pri V[k] = true := by rcases (by simpa [qb] using hq : V[k] = 34 ∨ V[k] = 92) with h | h <;> rw [h] <;> decide
        have hq2 : (((V[k].toNat : Int)) == 34) = true ∨ ((((V[k].toNat : Int)) == 34) = false ∧ (((V[k].toNat : Int)) == 92) = true) := by
          rw [show (34 : Int) = ((34 : Nat) : Int) from rfl, show (92 : Int) = ((92 : Nat) : Int) from rfl, u8_is 34 (by omega), u8_is 92 (by omega)]
          rcases (by simpa [qb] using hq : V[k] = 34 ∨ V[k] = 92) with h | h <;> rw [h] <;> decide
        rw [hp] at HP HAl
        clear hp hq
        rcases hq2 with e1 | ⟨e1, e2⟩
        all_goals
          go_wp2_with (first | (go_at_call 9; refine HP.out.mono ?_; rintro e w' ⟨rfl, rfl⟩) | (at_builtin; refine wpList_append_own _ rfl _ _ 30 rfl w.heap.size 5 inf (.int .u8 0) 1 1 Try.underlying30 hi5 hz0 hz1 hz2 rfl (by decide) _ _ _ rfl (HO5.out.alloc _) ⟨w5.heap.size, 0, none⟩ 1 1 [.int .u8 (V[k].toNat : Int)] rfl rfl (cell_one_new _ _ _) (fun x hx => by simp at hx; subst hx; rfl) (by unfold maxLen; omega) (by omega) (by simp; omega) ?_; intro v6 w6 hown6 hgrow6 hnil6; obtain ⟨b6, cap6, hv6, hg6⟩ := owned_form2 hown6; subst hv6; have HO6 : Hid (w6.ownsRow w.heap.size 5 1 (.slice (some ⟨b6, 0, none⟩) (out.length + 1 + 1) cap6) (out.length + 1 + 1) (Lib.byteCells ((out ++ [92]) ++ [V[k]]))) := (by rw [Lib.byteCells_append]; exact hown6 : w6.ownsRow w.heap.size 5 1 (.slice (some ⟨b6, 0, none⟩) (out.length + 1 + 1) cap6) (out.length + 1 + 1) (Lib.byteCells ((out ++ [92]) ++ [V[k]]))); have HB6 : Hid (Below w.heap.size w w6) := (HB5.out.alloc hbs5 _).grown hgrow6 (by simp; omega) (fun k hk => by cases hk; exact HG5.out); have hbs6 := HB6.out.size; have HG6 : Hid (w.heap.size ≤ b6) := hg6; clear hown6 hgrow6 hnil6 hg6) | (at_builtin; refine wpList_append_own _ rfl _ _ 30 rfl w.heap.size 5 inf (.int .u8 0) 1 1 Try.underlying30 hi5 hz0 hz1 hz2 rfl (by decide) _ _ _ rfl (HO3.out.alloc _) ⟨wr.heap.size, 0, none⟩ 1 1 [.int .u8 92] rfl rfl (cell_one_new _ _ _) (fun x hx => by simp at hx; subst hx; rfl) (by unfold maxLen; omega) (by omega) (by simp; omega) ?_; intro v5 w5 hown5 hgrow5 hnil5; obtain ⟨b5, cap5, hv5, hg5⟩ := owned_form2 hown5; subst hv5; have HO5 : Hid (w5.ownsRow w.heap.size 5 1 (.slice (some ⟨b5, 0, none⟩) (out.length + 1) cap5) (out.length + 1) (Lib.byteCells (out ++ [92]))) := (by rw [Lib.byteCells_append]; exact hown5 : w5.ownsRow w.heap.size 5 1 (.slice (some ⟨b5, 0, none⟩) (out.length + 1) cap5) (out.length + 1) (Lib.byteCells (out ++ [92]))); have HB5 : Hid (Below w.heap.size w w5) := (HB3.out.alloc hbs3 _).grown hgrow5 (by simp; omega) (fun k hk => by cases hk; exact HG3.out); have hbs5 := HB5.out.size; have HG5 : Hid (w.heap.size ≤ b5) := hg5; clear hown5 hgrow5 hnil5 hg5))
          go_roundw
          case rel => exact ⟨k + 1, b6, cap6, out ++ [92] ++ [V[k]], by omega, by simp, by rw [HAl.out]; simp, by go_num, ⟨by rw [List.length_append, List.length_append]; exact HO6.out, HB6.out, by rw [HR.out.out, HEs.out, HE1.out]; simp⟩⟩
          case measure => simp [intOf]; omega
    · have hke : k = V.size := by omega
      subst hke
      have hta : (bl V).take V.size = bl V := List.take_of_length_le (Nat.le_refl _)
      rw [hta]
      have HOut : Hid (out ++ [34] = f :: (escL (bl V) ++ [34])) := by
        show _ = _
        rw [HR.out.out, hta]
        rfl
      clear hta hk hlt
      have HPr : Hid (pr ((out ++ [34]).drop 1) = if (bl V).all pri = true then some (bl V) else none) := by
        show _ = _
        rw [HOut.out, List.drop_succ_cons, List.drop_zero, pr_value]
      generalize (bl V).all pri = P at *
      have HSz : Hid ((out ++ [34]).length ≤ 2 * V.size + 2) := (by simp; omega : (out ++ [34]).length ≤ 2 * V.size + 2)
      have HMk : Hid (bl ⟨(out ++ [34]).toArray⟩ = out ++ [34] ∧ (⟨(out ++ [34]).toArray⟩ : ByteArray).size = (out ++ [34]).length) := ⟨bl_mk _, size_mk _⟩
      go_wp2_with (first | (at_builtin; refine wpList_append_own _ rfl _ _ 30 rfl w.heap.size 5 inf (.int .u8 0) 1 1 Try.underlying30 hi5 hz0 hz1 hz2 rfl (by decide) _ _ _ rfl (HO3.out.alloc _) ⟨wr.heap.size, 0, none⟩ 1 1 [.int .u8 34] rfl rfl (cell_one_new _ _ _) (fun x hx => by simp at hx; subst hx; rfl) (by unfold maxLen; omega) (by omega) (by simp; omega) ?_; intro v7 w7 hown7 hgrow7 hnil7; obtain ⟨b7, cap7, hv7, hg7⟩ := owned_form2 hown7; subst hv7; have HO7 : Hid (w7.ownsRow w.heap.size 5 1 (.slice (some ⟨b7, 0, none⟩) (out.length + 1) cap7) (out.length + 1) (Lib.byteCells (out ++ [34]))) := (by rw [Lib.byteCells_append]; exact hown7 : w7.ownsRow w.heap.size 5 1 (.slice (some ⟨b7, 0, none⟩) (out.length + 1) cap7) (out.length + 1) (Lib.byteCells (out ++ [34]))); have HB7 : Hid (Below w.heap.size w w7) := (HB3.out.alloc hbs3 _).grown hgrow7 (by simp; omega) (fun k hk => by cases hk; exact HG3.out); have hbs7 := HB7.out.size; have HG7 : Hid (w.heap.size ≤ b7) := hg7; clear hown7 hgrow7 hnil7 hg7; have hcv7 := own_str1 HO7.out; generalize (⟨(out ++ [34]).toArray⟩ : ByteArray) = S at *))
      refine (zz_parse S (by have := HMk.out.2; have := HSz.out; omega)).mono ?_
      rintro e w8 ⟨hb8, hor⟩
      rw [HMk.out.1, HPr.out] at hor
      have HB8 : Hid (Below w.heap.size w w8) := HB7.out.trans (hb8.mono HB7.out.size)
      clear hb8
      have HMo : Hid (T.size ≠ 0 → pr ((bl (S ++ T)).drop 1) = none) := fun h => by
        rw [bl_app, HMk.out.1, HOut.out, List.cons_append, List.drop_succ_cons, List.drop_zero, List.append_assoc]
        exact pr_more _ (t := bl T) (fun e => h (by rw [← bl_len, e]; rfl))
      have HSz2 : Hid ((S ++ T).size ≤ 4194304) := (by rw [ByteArray.size_append, HMk.out.2]; have := HSz.out; omega : (S ++ T).size ≤ 4194304)
      have hcat : ¬ 9223372036854775807 < S.size + T.size := by rw [HMk.out.2]; have := HSz.out; omega
      cases P
      · rcases hor with ⟨v, hv, rfl⟩ | ⟨_, T', u, rfl⟩
        · cases hv
        · by_cases hT0 : T.size = 0
          · go_wp2
            go_ret
            exact ⟨rfl, HB8.out⟩
          · go_wp2_with fail
            refine (zz_parse (S ++ T) HSz2.out).mono ?_
            rintro e w9 ⟨hb9, ⟨v2, hv2, rfl⟩ | ⟨_, T2, u2, rfl⟩⟩
            · rw [HMo.out hT0] at hv2; cases hv2
            · have HB9 : Hid (Below w.heap.size w w9) := HB8.out.trans (hb9.mono HB8.out.size)
              clear hb9
              go_wp2
              go_ret
              exact ⟨rfl, HB9.out⟩
      · rcases hor with ⟨v, hv, rfl⟩ | ⟨hv, _⟩
        · obtain rfl : bl V = v := Option.some.inj hv
          rw [mk_bl]
          by_cases hT0 : T.size = 0
          · go_wp2
            go_ret
            exact ⟨rfl, HB8.out⟩
          · go_wp2_with fail
            refine (zz_parse (S ++ T) HSz2.out).mono ?_
            rintro e w9 ⟨hb9, ⟨v2, hv2, rfl⟩ | ⟨_, T2, u2, rfl⟩⟩
            · rw [HMo.out hT0] at hv2; cases hv2
            · have HB9 : Hid (Below w.heap.size w w9) := HB8.out.trans (hb9.mono HB8.out.size)
              clear hb9
              go_wp2
              go_ret
              exact ⟨rfl, HB9.out⟩
        · cases hv
end Go.Proofs.Qxb6628904a
