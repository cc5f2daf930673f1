/- The told and tied card of FnUnmarshalTextAcceptsExactly64Hex. -/
import Derived.Test.Qxb6628775aFmtBase
import Derived.Test.Qxb6628775aFmtWalkH
namespace Go.Proofs.Qxb6628775aFmt.accepts
open Go.ChangeShapes Go.WideShapes Go.ChangeAt Go.RowKit Go.Kit
open Go.Extern.Stop Go.Stop Go.Extern

/-- A slice of bytes that came in: nil, or its bytes lie where it leads. -/
def IsText (w : World) (a : Option Addr) (len : Nat) (tl : List UInt8) : Prop :=
  tl.length = len ∧ len ≤ 9223372036854775807 ∧ ((a = none ∧ len = 0) ∨ ∃ x, a = some x ∧ ∀ j (h : j < tl.length), w.cell? (x.add j) = some (.int .u8 (tl[j].toNat : Int)))

theorem whole (F : Interp) (ls : List UInt8) (a : Option Addr) (n cap : Nat) (tl : List UInt8) (ev : Value) (w : World) (hF : F.answers w.tape) (hls : ls.length = 32) (hE : w.cell? ⟨0, 0, none⟩ = some ev) (ht : IsText w a n tl) :
    Calls Tryf.prog 4 #[.agg (cellsOf ls), .slice a n cap] w fun e w' => e = .returned (.bool true) ∧ Below w.heap.size w w' := by
  obtain ⟨htl, hnm, hx⟩ := ht
  by_cases hbig : 1048576 < n
  · exact accepts_long ls a n cap w hls hbig hnm
  have h0 : 0 < w.heap.size := block_lt_of_cell hE
  have hsize : (⟨tl.toArray⟩ : ByteArray).size = n := by simpa [← ByteArray.size_data] using htl
  have hcv : ∀ W, Below w.heap.size w W → (convert 23 9 (.slice a n cap)).run Tryf.prog W = .ok (.string ⟨tl.toArray⟩) W := by
    intro W hb
    subst htl
    rcases hx with ⟨rfl, hz⟩ | ⟨x, rfl, hc⟩
    · have : tl = [] := List.eq_nil_of_length_eq_zero hz
      subst this
      have := run_convert_bytes_nil W 23 5 Tryf.underlying23 Tryf.underlying5 0 cap 9 Tryf.underlying9
      exact this
    · refine run_convert_bytes_back W 23 9 5 x cap tl Tryf.underlying23 Tryf.underlying5 Tryf.underlying9 (fun j hj => ?_)
      rw [hb.cell (block_lt_of_cell (hc j hj))]
      exact hc j hj
  by_cases h64 : n = 64
  · subst h64
    obtain ⟨x, rfl, hc⟩ : ∃ x, a = some x ∧ ∀ j (h : j < tl.length), w.cell? (x.add j) = some (.int .u8 (tl[j].toNat : Int)) := by
      rcases hx with ⟨_, hz⟩ | hx
      · omega
      · exact hx
    obtain ⟨b, o, spot⟩ := x
    have hspot : spot = none := by simpa [Addr.add] using World.cell?_spot (hc 0 (by omega))
    subst hspot
    have hb : b < w.heap.size := by simpa [Addr.add] using block_lt_of_cell (hc 0 (by omega))
    have hT : TxtAt w b o tl := fun j hj => by rw [← Addr.add_mid]; exact hc j hj
    by_cases hall : ∀ c ∈ tl, isHex c = true
    · exact accepts_yes ls tl b o cap ev w hls htl hall hE hb hT
    · obtain ⟨D, c, hD⟩ := decode_not 32 tl (by omega) hall
      have hfalse : tl.all isHex = false := by
        cases h : tl.all isHex with
        | false => rfl
        | true => exact absurd (List.all_eq_true.1 h) hall
      refine accepts_not ls _ 64 cap ⟨tl.toArray⟩ w hls (by omega) hcv (fun W hw => ?_) (fun W hw => ?_)
      · exact parse_bad F ⟨tl.toArray⟩ D c ev W (by rw [hw.tape]; exact hF) hsize hD (by rw [hw.cell (p := ⟨0, 0, none⟩) h0]; exact hE)
      · have h8 := peerhex_full b o cap tl W htl (hT.of_block (hw.block _ hb))
        rw [hfalse] at h8
        exact h8
  · refine accepts_not ls a n cap ⟨tl.toArray⟩ w hls (by omega) hcv (fun W hb => ?_) (fun W hb => peerhex_short a n cap W h64)
    exact parse_short F ⟨tl.toArray⟩ W (by rw [hb.tape]; exact hF) (by rw [hsize]; exact h64)

set_option maxRecDepth 100000 in
theorem lifted (os : Os) (started : os.Started) (H : Type) (enc : TypeId × Value → H) :
    ReturnsInTold none {} Tryf.checked os 4 .any Input.okWide ((OpenSpec.ofChange Rows.fnUnmarshalTextAcceptsExactly64HexSpec).preRow enc Tryf.prog Tryf.f4 [] false laidL) (fun F => ((OpenSpec.ofChange Rows.fnUnmarshalTextAcceptsExactly64HexSpec).at F).post enc Tryf.prog Tryf.f4 false true false false) (aloneAtReturn Tryf.prog) nothingAlways := by
  refine returnsInTold_of_row (C := Tryf.checked) (s := OpenSpec.ofChange Rows.fnUnmarshalTextAcceptsExactly64HexSpec) (by kernel_rfl) own started (by kernel_rfl) Tryf.func4
    (OpenSpec.witness_stopped_at (enc := enc) (C := Tryf.checked) false (laidWorld Tryf.prog (World.holding Tryf.prog default ⟨#[], #[], []⟩).heap.size os errText) #[.agg #[.int .u8 0, .int .u8 0, .int .u8 0, .int .u8 0, .int .u8 0, .int .u8 0, .int .u8 0, .int .u8 0, .int .u8 0, .int .u8 0, .int .u8 0, .int .u8 0, .int .u8 0, .int .u8 0, .int .u8 0, .int .u8 0, .int .u8 0, .int .u8 0, .int .u8 0, .int .u8 0, .int .u8 0, .int .u8 0, .int .u8 0, .int .u8 0, .int .u8 0, .int .u8 0, .int .u8 0, .int .u8 0, .int .u8 0, .int .u8 0, .int .u8 0, .int .u8 0], .slice none 0 0] rfl (by kernel_rfl) (by kernel_rfl) (by kernel_rfl)
      (OpenSpec.preRow_of_B rfl 8 (by kernel_rfl) (by kernel_rfl) (laid_met os _))) ?_
  intro F W base args ds gs before _ hF hval0 hW _ _ _ hL _
  have hval : ∀ (j : Nat) t v, Tryf.f4.params[j]? = some t → args[j]? = some v → Value.okWide Tryf.prog W .any base t v := hval0
  have hW' := hW
  obtain ⟨p, q, hA0, hV, rfl, hfz, hnd⟩ := hW
  have hA : DataW.TrodAll enc Tryf.prog W 0 (fun _ => true) true Tryf.f4.params.toList args.toList ds p := hA0
  rw [Tryf.params4] at hA hval
  obtain ⟨v0, v1, d0, d1, p0, p1, rfl, rfl, rfl, h0, h1⟩ := trodAll_two hA
  obtain ⟨rfl, rfl⟩ := trodVars_none hV
  obtain ⟨ls, hls, rfl⟩ := open_bytes32 (hval 0 22 v0 rfl rfl) h0
  obtain ⟨a, len, cap, rfl⟩ := okWide_slice Tryf.underlying23 (hval 1 23 v1 rfl rfl)
  have lt0 : ∀ x ∈ p0, x.block < W.heap.size := by obtain ⟨m, hm⟩ := h0; exact DataW.trod_lt m _ _ _ hm
  have lt1 : ∀ x ∈ p1, x.block < W.heap.size := by obtain ⟨m, hm⟩ := h1; exact DataW.trod_lt m _ _ _ hm
  have k1 := h1
  obtain ⟨tl, hT⟩ : ∃ tl, IsText W a len tl := by
    obtain ⟨fuel, hf⟩ := h1
    rcases open_ints Tryf.underlying23 Tryf.underlying5 cells5 hf with ⟨hcs, _⟩ | ⟨x, l, c, zs, hcs, _, hl, hm, hz, _, hcell, hwz⟩
    · simp [Value.cells] at hcs
      obtain ⟨rfl, rfl, rfl⟩ := hcs
      exact ⟨[], rfl, by omega, .inl ⟨rfl, rfl⟩⟩
    · simp [Value.cells] at hcs
      obtain ⟨rfl, rfl, rfl⟩ := hcs
      have hz' : zs.length = cap := by simpa using hz
      unfold maxLen at hm
      have hlen : ((zs.take len).map fun n => UInt8.ofNat n.toNat).length = len := by simp; omega
      refine ⟨(zs.take len).map fun n => UInt8.ofNat n.toNat, hlen, by omega, .inr ⟨x, rfl, fun j hj => ?_⟩⟩
      rw [hlen] at hj
      have hjz : j < zs.length := by omega
      rw [hcell j hjz]
      have hw := hwz zs[j] (List.getElem_mem hjz)
      simp [Lit.wf, IntKind.min, IntKind.max, IntKind.signed, IntKind.bits] at hw
      simp [hjz, UInt8.toNat_ofNat']
      omega
  obtain ⟨ev, hE⟩ := errCell hL
  clear hA0 hval0
  refine (whole F.told ls a len cap tl ev W hF hls hE hT).mono fun e W' ⟨he, bel⟩ => ?_
  subst he
  exact ⟨_, rfl, _, _, _, [], _, [], hW', trodAll_mk1 (shut_bool Tryf.underlying4 _), trodAll_mk2 (Below.trod laidOut (by kernel_rfl) (of_decide_eq_true (by kernel_rfl)) h0 bel lt0) (Below.trod laidOut (by kernel_rfl) (of_decide_eq_true (by kernel_rfl)) k1 bel lt1), rfl, bel.frame _, fun h => by cases h⟩

theorem proved : Rows.FnUnmarshalTextAcceptsExactly64HexToldSaid :=
  Claim7.holds_of_told_tied_any_at .later 4 Tryf.f4 "fmt.errorf" [] [] _ _ _ _ _ (by kernel_rfl) rfl rfl rfl laidOut (by kernel_rfl) rfl ⟨rfl, rfl, rfl, rfl, rfl, rfl, rfl⟩ rfl rfl (by kernel_rfl) (by kernel_rfl) Tryf.func4 (by kernel_rfl)
    (of_decide_eq_true (by kernel_rfl)) (of_decide_eq_true (by kernel_rfl)) stops.symm rfl stopKnobs.symm (by kernel_rfl)
    (by kernel_rfl) (by kernel_rfl) (by kernel_rfl) (by kernel_rfl) (by kernel_rfl) (by kernel_rfl) (by kernel_rfl) (by kernel_rfl) (by kernel_rfl) rfl (by kernel_rfl) rfl rfl
    rfl rfl
    rfl (by kernel_rfl) (by kernel_rfl) (by kernel_rfl) (by decide) (by kernel_rfl) fnUnmarshalTextAcceptsExactly64Hex_row_tie
    (OpenClaim.moreEntering_of (by kernel_rfl) (by kernel_rfl) (by kernel_rfl) (by kernel_rfl) (by kernel_rfl) (by kernel_rfl) (by kernel_rfl) (by kernel_rfl) (by kernel_rfl) (by kernel_rfl))
    ⟨_, WideRow.started_initial, quiet _⟩
    (fun os started _ H enc _ => lifted os started H enc)
end Go.Proofs.Qxb6628775aFmt.accepts
