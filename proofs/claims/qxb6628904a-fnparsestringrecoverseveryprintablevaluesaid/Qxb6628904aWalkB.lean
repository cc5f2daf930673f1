/- The walks of ZZparseString, zzPrintableASCII, zzFieldStringModel. -/
import Derived.Test.Qxb6628904aWalkA
import Derived.OwnWalk
import Derived.Lib.SlBytesRow
namespace Go.Proofs.Qxb6628904a
open Go.RowKit

theorem ret_bool {a b : Bool} (h : a = b) : Ending.returned (.bool a) = .returned (.bool b) := by rw [h]

set_option maxHeartbeats 400000 in
theorem zz_pri {w : World} (c : UInt8) :
    Calls Try.prog 9 #[.int .u8 (c.toNat : Int)] w fun e w' => e = .returned (.bool (pri c)) ∧ w = w' := by
  have hc := c.toNat_lt
  have HC : Hid (pri c = (decide (32 ≤ c.toNat) && decide (c.toNat ≤ 126))) := rfl
  generalize pri c = b at *
  generalize c.toNat = x at *
  go_enter Try.func9, Try.ntmps9
  go_wp2
  all_goals
    go_ret
    refine ⟨ret_bool ?_, rfl⟩
    rw [HC.out, Bool.eq_iff_iff]
    simp
    try omega

theorem zz_parse {w : World} (S : ByteArray) (hS : S.size ≤ 4194304) :
    Calls Try.prog 6 #[.string S] w (PPost w S) := by
  have HP : Hid (Calls Try.prog 10 #[.string S] w (PPost w S)) := parse_any S hS
  go_enter Try.func6, Try.ntmps6
  go_wp2_with fail
  refine HP.out.mono ?_
  rintro e w1 ⟨hb, ⟨v, hv, rfl⟩ | ⟨hv, T, u, rfl⟩⟩
  · go_wp2
    go_ret2
    exact PPost.yes hb hv rfl
  · go_wp2
    go_ret2
    exact PPost.no hb hv rfl

theorem infoB : (Try.prog.info? 5).map (fun i => (i.zero, i.size, i.bytes)) = some (some (.int .u8 0), 1, 1) := by kernel_rfl

/-- What the model answers. -/
def MPost (w : World) (S : ByteArray) (e : Ending) (w' : World) : Prop :=
  Below w.heap.size w w' ∧ ((∃ v, pr ((bl S).drop 1) = some v ∧ e = .returned (.tuple #[.string ⟨v.toArray⟩, .bool true])) ∨
    (pr ((bl S).drop 1) = none ∧ e = .returned (.tuple #[.string ⟨#[]⟩, .bool false])))
theorem MPost.yes {w w' : World} {S : ByteArray} {e : Ending} {v : List UInt8} (hb : Below w.heap.size w w') (h : pr ((bl S).drop 1) = some v) (he : e = .returned (.tuple #[.string ⟨v.toArray⟩, .bool true])) : MPost w S e w' := ⟨hb, .inl ⟨v, h, he⟩⟩
theorem MPost.no {w w' : World} {S : ByteArray} {e : Ending} (hb : Below w.heap.size w w') (h : pr ((bl S).drop 1) = none) (he : e = .returned (.tuple #[.string ⟨#[]⟩, .bool false])) : MPost w S e w' := ⟨hb, .inr ⟨h, he⟩⟩
theorem owned_form2 {w : World} {base : Nat} {v : Value} {n : Nat} {xs : List Value} (h : w.ownsRow base 5 1 v (n + 1) xs) : ∃ g cap, v = .slice (some ⟨g, 0, none⟩) (n + 1) cap ∧ base ≤ g := by
  obtain ⟨_, h2⟩ := h
  rcases h2 with ⟨_, h0⟩ | ⟨g, cap, cur, hv, hg, _, hc, _⟩
  · omega
  · exact ⟨g, cap, hv, hg⟩
theorem own_bytes {w : World} {base g cap : Nat} {l : List UInt8} (h : w.ownsRow base 5 1 (.slice (some ⟨g, 0, none⟩) l.length cap) l.length (Lib.byteCells l)) : Lib.Bytes w g 0 ⟨l.toArray⟩ := by
  intro i hi
  have hi2 : i < l.length := by simpa [← ByteArray.size_data] using hi
  rw [Nat.zero_add, h.cellAt i (by omega)]
  unfold Lib.byteCells
  rw [List.getElem?_map, List.getElem?_eq_getElem hi2]
  rfl
theorem own_string {w : World} {base g cap : Nat} {l : List UInt8} (h : w.ownsRow base 5 1 (.slice (some ⟨g, 0, none⟩) l.length cap) l.length (Lib.byteCells l)) :
    (convert 30 9 (.slice (some ⟨g, 0, none⟩) l.length cap)).run Try.prog w = .ok (.string ⟨l.toArray⟩) w := by
  have hsz : (⟨l.toArray⟩ : ByteArray).size = l.length := by simp [← ByteArray.size_data]
  have := Lib.run_convert_whole (P := Try.prog) w 30 5 9 Try.underlying30 Try.underlying5 Try.underlying9 g 0 ⟨l.toArray⟩ (own_bytes h) cap
  rwa [hsz] at this

/-- The model's loop: what it has put out, and where the machine stands. -/
structure RS (w wr : World) (S : ByteArray) (k : Nat) (p g : Bool) (b cap : Nat) (out : List UInt8) : Prop where
  own : wr.ownsRow w.heap.size 5 1 (.slice (some ⟨b, 0, none⟩) out.length cap) out.length (Lib.byteCells out)
  bel : Below w.heap.size w wr
  re : mr p g out ((bl S).dropLast.drop k) = mr false true [] ((bl S).dropLast.drop 1)
  len : out.length ≤ k
theorem body_cons {S : ByteArray} {k : Nat} (h : k < S.size) (hk : k + 1 < S.size) : (bl S).dropLast.drop k = S[k] :: (bl S).dropLast.drop (k + 1) := by
  have h1 : k < (bl S).dropLast.length := by rw [List.length_dropLast, bl_len]; omega
  rw [drop_cons h1]
  congr 1
  rw [List.getElem_dropLast]
  rfl
theorem body_nil {S : ByteArray} {k : Nat} (hk : ¬ k + 1 < S.size) : (bl S).dropLast.drop k = [] := List.drop_eq_nil_of_le (by rw [List.length_dropLast, bl_len]; omega)
theorem RS.stay {w wr : World} {S : ByteArray} {k : Nat} {p g p' g' : Bool} {b cap : Nat} {out : List UInt8} (h : RS w wr S k p g b cap out) (hk : k < S.size) (hk1 : k + 1 < S.size) (hm : ∀ r, mr p g out (S[k] :: r) = mr p' g' out r) : RS w wr S (k + 1) p' g' b cap out :=
  ⟨h.own, h.bel, by rw [← h.re, body_cons hk hk1, hm], by have := h.len; omega⟩
theorem RS.put {w wr w' : World} {S : ByteArray} {k : Nat} {p g p' g' : Bool} {b cap b' cap' : Nat} {out : List UInt8} (h : RS w wr S k p g b cap out) (hk : k < S.size) (hk1 : k + 1 < S.size) (hm : ∀ r, mr p g out (S[k] :: r) = mr p' g' (out ++ [S[k]]) r)
    (ho : w'.ownsRow w.heap.size 5 1 (.slice (some ⟨b', 0, none⟩) (out.length + 1) cap') (out.length + 1) (Lib.byteCells out ++ [.int .u8 (S[k].toNat : Int)])) (hb : Below w.heap.size w w') : RS w w' S (k + 1) p' g' b' cap' (out ++ [S[k]]) := by
  refine ⟨?_, hb, by rw [← h.re, body_cons hk hk1, hm], by have := h.len; simp; omega⟩
  rw [Lib.byteCells_append, List.length_append]
  exact ho
theorem RS.done {w wr : World} {S : ByteArray} {k : Nat} {p g : Bool} {b cap : Nat} {out : List UInt8} (h : RS w wr S k p g b cap out) (h2 : 2 ≤ S.size) (hk : ¬ k + 1 < S.size) (hq : (bl S).getLast? = some 34) : pr ((bl S).drop 1) = if p = false ∧ g = true then some out else none := by
  rw [← model_law (by rw [bl_len]; exact h2) hq, ← h.re, body_nil hk, mr]
theorem last_at {S : ByteArray} (h2 : 2 ≤ S.size) : (bl S).getLast? = some (S[S.size - 1]'(by omega)) := by
  rw [List.getLast?_eq_getElem?, List.getElem?_eq_getElem (by rw [bl_len]; omega)]
  rfl

theorem mr_p_q {g : Bool} {out r : List UInt8} {c : UInt8} (h : qb c = true) : mr true g out (c :: r) = mr false g (out ++ [c]) r := by rw [mr, if_pos rfl, if_pos h]
theorem mr_p_n {g : Bool} {out r : List UInt8} {c : UInt8} (h : qb c = false) : mr true g out (c :: r) = mr false false out r := by rw [mr, if_pos rfl, if_neg (by rw [h]; simp)]
theorem mr_bs {g : Bool} {out r : List UInt8} : mr false g out (92 :: r) = mr true g out r := by rw [mr, if_neg (by simp), if_pos rfl]
theorem mr_n {g : Bool} {out r : List UInt8} {c : UInt8} (h1 : c ≠ 92) (h2 : c = 34 ∨ pri c = false) : mr false g out (c :: r) = mr false false out r := by rw [mr, if_neg (by simp), if_neg h1, if_pos h2]
theorem mr_c {g : Bool} {out r : List UInt8} {c : UInt8} (h1 : c ≠ 92) (h2 : c ≠ 34) (h3 : pri c = true) : mr false g out (c :: r) = mr false g (out ++ [c]) r := by rw [mr, if_neg (by simp), if_neg h1, if_neg (by simp [h2, h3])]

set_option maxRecDepth 10000 in
set_option maxHeartbeats 2000000 in
theorem zz_model {w : World} (S : ByteArray) (hS : S.size ≤ 4194304) :
    Calls Try.prog 7 #[.string S] w (MPost w S) := by
  obtain ⟨inf, hi5, hz0, hz1, hz2⟩ := info_parts infoB
  by_cases h2 : 2 ≤ S.size
  · have hl1 : S.size - 1 < S.size := by omega
    by_cases hq : S[S.size - 1] = 34
    · have e1 : (((S[S.size - 1].toNat : Int)) != 34) = false := by rw [hq]; rfl
      have HQ : Hid ((bl S).getLast? = some 34) := by show _ = _; rw [last_at h2, hq]
      go_enter Try.func7, Try.ntmps7
      go_wp2_with (first | (at_make; refine wpList_make_own _ rfl _ _ 30 rfl w.heap.size 5 inf (.int .u8 0) 1 Try.underlying30 hi5 hz0 hz1 _ _ _ S.size rfl rfl rfl (by rw [hz2]; omega) (by unfold maxLen; omega) (Nat.le_refl _) ?_) | go_in)
      intro w1 hown hgrow
      have HR1 : Hid (RS w w1 S 1 false true w.heap.size S.size []) := ⟨hown, (Below.refl _ _).grown hgrow (Nat.le_refl _) (fun k hk => by cases hk), rfl, by simp⟩
      clear hown hgrow e1 hq hl1
      go_wp2
      go_loopw [5, 6, 7, 8] (fun vo vp vg vk wr => ∃ (k : Nat) (p g : Bool) (b cap : Nat) (out : List UInt8), 1 ≤ k ∧ k + 1 ≤ S.size ∧ vo = .slice (some ⟨b, 0, none⟩) out.length cap ∧ vp = .bool p ∧ vg = .bool g ∧ vk = .int .i64 k ∧ Hid (RS w wr S k p g b cap out)) (fun _ _ _ vk _ => S.size - (intOf vk).toNat)
      case atStart => exact ⟨1, false, true, w.heap.size, S.size, [], by omega, by omega, rfl, rfl, rfl, rfl, HR1⟩
      case round =>
        obtain ⟨k, p, g, b, cap, out, hk0, hk1, rfl, rfl, rfl, rfl, HR⟩ := hrel
        clear HR1
        have hbs := HR.out.bel.size
        have hol := HR.out.len
        have HGl : Hid (w.heap.size ≤ b) := (HR.out.own.lt b rfl).1
        by_cases hk : k + 1 < S.size
        · have hks : k < S.size := by omega
          have hlt : decide ((k : Int) < (S.size : Int) - 1) = true := by simp; omega
          cases p
          · by_cases h92 : S[k] = 92
            · have e1 : (((S[k].toNat : Int)) == 92) = true := by rw [h92]; rfl
              have HN : Hid (∀ r, mr false g out (S[k] :: r) = mr true g out r) := fun r => by rw [h92]; exact mr_bs
              clear h92
              go_wp2
              go_roundw
              case rel => exact ⟨k + 1, true, g, b, cap, out, by omega, by omega, rfl, rfl, rfl, by go_num, HR.out.stay hks hk HN.out⟩
              case measure => simp [intOf]; omega
            · have e1 : (((S[k].toNat : Int)) == 92) = false := by rw [show (92 : Int) = ((92 : Nat) : Int) from rfl, u8_is 92 (by omega)]; simpa using h92
              have HP : Hid (Calls Try.prog 9 #[.int .u8 (S[k].toNat : Int)] wr fun e w' => e = .returned (.bool (pri S[k])) ∧ wr = w') := zz_pri S[k]
              by_cases h34 : S[k] = 34
              · have e2 : (((S[k].toNat : Int)) == 34) = true := by rw [h34]; rfl
                have HN : Hid (∀ r, mr false g out (S[k] :: r) = mr false false out r) := fun r => mr_n h92 (.inl h34)
                clear h92 h34
                go_wp2
                go_roundw
                case rel => exact ⟨k + 1, false, false, b, cap, out, by omega, by omega, rfl, rfl, rfl, by go_num, HR.out.stay hks hk HN.out⟩
                case measure => simp [intOf]; omega
              · have e2 : (((S[k].toNat : Int)) == 34) = false := by rw [show (34 : Int) = ((34 : Nat) : Int) from rfl, u8_is 34 (by omega)]; simpa using h34
                cases hp : pri S[k]
                · have HN : Hid (∀ r, mr false g out (S[k] :: r) = mr false false out r) := fun r => mr_n h92 (.inr hp)
                  rw [hp] at HP
                  clear h92 h34 hp
                  go_wp2_with (first | (go_at_call 9; refine HP.out.mono ?_; rintro e w' ⟨rfl, rfl⟩))
                  go_roundw
                  case rel => exact ⟨k + 1, false, false, b, cap, out, by omega, by omega, rfl, rfl, rfl, by go_num, HR.out.stay hks hk HN.out⟩
                  case measure => simp [intOf]; omega
                · have HN : Hid (∀ r, mr false g out (S[k] :: r) = mr false g (out ++ [S[k]]) r) := fun r => mr_c h92 h34 hp
                  rw [hp] at HP
                  clear h92 h34 hp
                  go_wp2_with (first | (go_at_call 9; refine HP.out.mono ?_; rintro e w' ⟨rfl, rfl⟩) | (at_builtin; refine wpList_append_own _ rfl _ _ 30 rfl w.heap.size 5 inf (.int .u8 0) 1 1 Try.underlying30 hi5 hz0 hz1 hz2 rfl (by decide) _ _ _ rfl (HR.out.own.alloc _) ⟨wr.heap.size, 0, none⟩ 1 1 [.int .u8 (S[k].toNat : Int)] rfl rfl (cell_one_new _ _ _) (fun x hx => by simp at hx; subst hx; rfl) (by unfold maxLen; omega) (by omega) (by simp; omega) ?_; intro v2 w2 hown2 hgrow2 hnil2; obtain ⟨b2, cap2, hv2, hg2⟩ := owned_form2 hown2; subst hv2; have HO2 : Hid (w2.ownsRow w.heap.size 5 1 (.slice (some ⟨b2, 0, none⟩) (out.length + 1) cap2) (out.length + 1) (Lib.byteCells out ++ [.int .u8 (S[k].toNat : Int)])) := hown2; have HB2 : Hid (Below w.heap.size w w2) := (HR.out.bel.alloc hbs _).grown hgrow2 (by simp; omega) (fun k hk => by cases hk; exact HGl.out); clear hown2 hgrow2 hnil2))
                  go_roundw
                  case rel => exact ⟨k + 1, false, g, b2, cap2, out ++ [S[k]], by omega, by omega, by simp, rfl, rfl, by go_num, HR.out.put hks hk HN.out HO2.out HB2.out⟩
                  case measure => simp [intOf]; omega
          · cases hqb : qb S[k]
            · have HN : Hid (∀ r, mr true g out (S[k] :: r) = mr false false out r) := fun r => mr_p_n hqb
              have hq2 : (((S[k].toNat : Int)) == 34) = false ∧ (((S[k].toNat : Int)) == 92) = false := by
                rw [show (34 : Int) = ((34 : Nat) : Int) from rfl, show (92 : Int) = ((92 : Nat) : Int) from rfl, u8_is 34 (by omega), u8_is 92 (by omega)]
                simpa [qb, Bool.or_eq_false_iff] using hqb
              obtain ⟨e1, e2⟩ := hq2
              clear hqb
              go_wp2
              go_roundw
              case rel => exact ⟨k + 1, false, false, b, cap, out, by omega, by omega, rfl, rfl, rfl, by go_num, HR.out.stay hks hk HN.out⟩
              case measure => simp [intOf]; omega
            · have HN : Hid (∀ r, mr true g out (S[k] :: r) = mr false g (out ++ [S[k]]) r) := fun r => mr_p_q hqb
              have hq2 : (((S[k].toNat : Int)) == 34) = true ∨ ((((S[k].toNat : Int)) == 34) = false ∧ (((S[k].toNat : Int)) == 92) = true) := by
                rw [show (34 : Int) = ((34 : Nat) : Int) from rfl, show (92 : Int) = ((92 : Nat) : Int) from rfl, u8_is 34 (by omega), u8_is 92 (by omega)]
                rcases (by simpa [qb] using hqb : S[k] = 34 ∨ S[k] = 92) with h | h <;> rw [h] <;> decide
              clear hqb
              rcases hq2 with e1 | ⟨e1, e2⟩
              all_goals
                go_wp2_with (first | (at_builtin; refine wpList_append_own _ rfl _ _ 30 rfl w.heap.size 5 inf (.int .u8 0) 1 1 Try.underlying30 hi5 hz0 hz1 hz2 rfl (by decide) _ _ _ rfl (HR.out.own.alloc _) ⟨wr.heap.size, 0, none⟩ 1 1 [.int .u8 (S[k].toNat : Int)] rfl rfl (cell_one_new _ _ _) (fun x hx => by simp at hx; subst hx; rfl) (by unfold maxLen; omega) (by omega) (by simp; omega) ?_; intro v2 w2 hown2 hgrow2 hnil2; obtain ⟨b2, cap2, hv2, hg2⟩ := owned_form2 hown2; subst hv2; have HO2 : Hid (w2.ownsRow w.heap.size 5 1 (.slice (some ⟨b2, 0, none⟩) (out.length + 1) cap2) (out.length + 1) (Lib.byteCells out ++ [.int .u8 (S[k].toNat : Int)])) := hown2; have HB2 : Hid (Below w.heap.size w w2) := (HR.out.bel.alloc hbs _).grown hgrow2 (by simp; omega) (fun k hk => by cases hk; exact HGl.out); clear hown2 hgrow2 hnil2))
                go_roundw
                case rel => exact ⟨k + 1, false, g, b2, cap2, out ++ [S[k]], by omega, by omega, by simp, rfl, rfl, by go_num, HR.out.put hks hk HN.out HO2.out HB2.out⟩
                case measure => simp [intOf]; omega
        · have hlt : decide ((k : Int) < (S.size : Int) - 1) = false := by simp; omega
          have hfin := HR.out.done h2 hk HQ.out
          have hcv := own_string HR.out.own
          cases p
          · cases g
            · have HN : Hid (pr ((bl S).drop 1) = none) := hfin
              clear hfin hcv
              go_wp2
              go_ret2
              exact MPost.no HR.out.bel HN.out rfl
            · have HN : Hid (pr ((bl S).drop 1) = some out) := hfin
              clear hfin
              go_wp2
              go_ret2
              exact MPost.yes HR.out.bel HN.out rfl
          · have HN : Hid (pr ((bl S).drop 1) = none) := hfin
            clear hfin hcv
            go_wp2
            go_ret2
            exact MPost.no HR.out.bel HN.out rfl
    · have e1 : (((S[S.size - 1].toNat : Int)) != 34) = true := by rw [show (34 : Int) = ((34 : Nat) : Int) from rfl, u8_not 34 (by omega)]; simpa using hq
      have HN : Hid (pr ((bl S).drop 1) = none) := model_no (by rw [bl_len]; exact h2) (by rw [last_at h2]; simpa using hq)
      clear hq
      go_enter Try.func7, Try.ntmps7
      go_wp2
      go_ret2
      exact MPost.no (Below.refl _ _) HN.out rfl
  · have HN : Hid (pr ((bl S).drop 1) = none) := model_short (by rw [bl_len]; exact h2)
    go_enter Try.func7, Try.ntmps7
    go_wp2
    go_ret2
    exact MPost.no (Below.refl _ _) HN.out rfl
end Go.Proofs.Qxb6628904a
