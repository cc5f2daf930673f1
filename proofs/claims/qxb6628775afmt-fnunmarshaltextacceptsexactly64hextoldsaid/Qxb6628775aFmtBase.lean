/- What both cards of this seat lean on: closed facts, the listed variable, arrays of bytes by value. -/
import Derived.Test.Qxb6628775aFmtCards
import Derived.Test.Qxb6628775aFmtTie
import Derived.Test.Qxb6628775aFmtWalkA
import Derived.ProofKit
import Derived.OpenShut
import Derived.ChangeOld
import Derived.Below
import Derived.Stop.JoinedTold
import Derived.Stop.JoinedAt
import Derived.Stop.Texts
import Derived.Stop.LaidErr
import Derived.SevenTiedAt
namespace Go.Proofs.Qxb6628775aFmt
open Go.ChangeShapes Go.WideShapes Go.ChangeAt Go.RowKit Go.Kit
open Go.Extern.Stop Go.Stop Go.Extern

theorem own : ownKnob Tryf.prog.godebug = none := by kernel_rfl
theorem laidOut : laidOutB Tryf.pinned.checked.prog = true := by kernel_rfl
theorem stops : Tryf.pinned.checked.prog.stops = ["fmt.errorf"] := by kernel_rfl
theorem stopKnobs : Tryf.pinned.checked.prog.stopKnobs = [] := by kernel_rfl
theorem quiet (os : Os) : Stop.quiet Tryf.pinned.checked.prog os := by
  intro k hk
  rw [stopKnobs] at hk
  cases hk

/-- The list of what is laid. -/
def laidL : List (String × DataW Unit) := Rows.fnPeerIDTextRoundTripRow.laid
theorem gE : (laidL.head?.map (·.1)).bind (fun n => Tryf.prog.globalNamed n) = some 0 := by kernel_rfl
theorem gEType : (Tryf.prog.globals[0]?).map (·.type) = some 27 := by kernel_rfl
theorem cells22 : Tryf.prog.cellsOf 22 = 32 := by kernel_rfl
theorem cells5 : Tryf.prog.cellsOf 5 = 1 := by kernel_rfl

/-- The variable's own cell is there. -/
theorem errCell {W : World} (h : laidMetH Tryf.prog laidL W) : ∃ ev, W.cell? ⟨0, 0, none⟩ = some ev := by
  have h' : laidMet Tryf.prog laidL W := h
  obtain ⟨ps, ⟨g0, t0, cs0, f0, p0, q0, hg0, ht0, hv0, hd0, _, e0⟩, _, hrows⟩ := h'
  have e : g0 = 0 := Option.some.inj (hg0.symm.trans gE)
  subst e
  have ht : (Tryf.prog.globals[0]?).map (·.type) = some 27 := gEType
  have e2 : t0 = 27 := Option.some.inj (ht0.symm.trans ht)
  subst e2
  obtain ⟨l⟩ := cs0
  cases l with
  | nil =>
    cases f0 with
    | zero => simp [DataW.trod] at hd0
    | succ f0 => simp [DataW.trod, Tryf.underlying27] at hd0
  | cons v l =>
    exact ⟨v, by simpa using World.var?_cell hg0 hv0 0⟩

/-- A world in which the variable lies as its initialiser lays it: a witness that the premise can be met. -/
def laidWorld (P : Program) (low : Nat) (os : Os) (s : ByteArray) : World :=
  let w0 := World.holding P os ⟨#[.cells #[.string s] 50], #[], []⟩
  { w0 with heap := w0.heap.modify 0 fun
      | .cells _ t frozen => .cells #[.iface 48 (.pointer (some ⟨low, 0, none⟩))] t frozen
      | o => o }
def errText : ByteArray := ⟨#[101, 110, 99, 111, 100, 105, 110, 103, 47, 104, 101, 120, 58, 32, 111, 100, 100, 32, 108, 101, 110, 103, 116, 104, 32, 104, 101, 120, 32, 115, 116, 114, 105, 110, 103]⟩
theorem laid_met (os : Os) (args : Array Value) : laidMet Tryf.prog laidL ((laidWorld Tryf.prog (World.holding Tryf.prog default ⟨#[], #[], []⟩).heap.size os errText).forCall (fun _ _ => 0) ⟨#[], args, []⟩).memory :=
  laidMet_of_run (ps := [.cell 0 0, .cell (World.holding Tryf.prog default ⟨#[], #[], []⟩).heap.size 0]) 8 (by kernel_rfl) (by kernel_rfl) (by kernel_rfl)

/-- The byte that a value is. -/
def byteOf : Value → UInt8
  | .int _ n => UInt8.ofNat n.toNat
  | _ => 0

/-- An array of 32 bytes by value, opened. -/
theorem open_bytes32 {H : Type} {enc : TypeId × Value → H} {W : World} {b : Nat} {base : Nat} {sp : Nat → Bool} {held : Bool} {v : Value} {d : DataW H} {p : List MemPlace}
    (hv : Value.okWide Tryf.prog W .any b 22 v) (h : DataW.Trod enc Tryf.prog W base sp held 22 v d p) : ∃ l : List UInt8, l.length = 32 ∧ v = .agg (cellsOf l) := by
  obtain ⟨cs, rfl, hsz, _⟩ : ∃ cs, v = .agg cs ∧ cs.size = Tryf.prog.cellsOf 22 ∧ Row.okWide Tryf.prog W .any b 22 cs := by
    simpa [Value.okWide, Tryf.underlying22] using hv
  rw [cells22] at hsz
  obtain ⟨fuel, hf⟩ := h
  obtain ⟨xs, m, _, _, _, hl, hx⟩ := DataW.trod_array Tryf.underlying22 hf
  have each : ∀ i (hi : i < cs.size), cs[i] = .int .u8 ((byteOf cs[i]).toNat : Int) := by
    intro i hi
    have h1 := hx i (by omega)
    rw [cells5, List.getElem?_eq_getElem (by omega)] at h1
    obtain ⟨n, e, _, wf⟩ := DataW.trod_int Tryf.underlying5 h1
    have hci : ((Value.agg cs).cells.toList.drop (i * 1)).take 1 = [cs[i]] := by
      rw [Nat.mul_one]
      have hi' : i < cs.toList.length := by simpa using hi
      show (cs.toList.drop i).take 1 = _
      rw [List.drop_eq_getElem_cons hi']
      simp
    rw [hci] at e
    have e2 : cs[i] = .int .u8 n := by simpa using e
    rw [e2]
    simp [Lit.wf, IntKind.min, IntKind.max, IntKind.signed, IntKind.bits] at wf
    show _ = Value.int .u8 ((UInt8.ofNat n.toNat).toNat : Int)
    rw [UInt8.toNat_ofNat']
    congr 1
    omega
  refine ⟨cs.toList.map byteOf, by simpa using hsz, ?_⟩
  congr 1
  apply Array.ext
  · simp [cellsOf]
  · intro i h1 h2
    rw [each i h1]
    simp [cellsOf]
end Go.Proofs.Qxb6628775aFmt
