/- The walks of PeerID's String, of fmt.Errorf at the one format, of ParsePeerID and UnmarshalText. -/
import Derived.Test.Qxb6628775aFmtRows
import Derived.Test.Qxb6628775aFmtShelf
import Derived.WalkKit
import Derived.WalkSpells
import Derived.WalkLawsBesides
import Derived.Deep.OwnRows
import Derived.Deep.WholeRow
import Derived.Stop.CallBack
import Derived.Stop.IfaceNil
import Derived.Stop.BytesEq
namespace Go.Proofs.Qxb6628775aFmt
open Go.RowKit Go.Extern.Stop Go.Stop Go.Extern

/-- The cells of a list of bytes. -/
def cellsOf (l : List UInt8) : Array Value := (l.map fun b => Value.int .u8 (b.toNat : Int)).toArray

theorem cellsOf_size (l : List UInt8) : (cellsOf l).size = l.length := by simp [cellsOf]
theorem cellsOf_at (l : List UInt8) (i : Nat) (h : i < l.length) : (cellsOf l)[i]? = some (.int .u8 (l[i].toNat : Int)) := by simp [cellsOf, h]
theorem cellsOf_one (l : List UInt8) : (cellsOf l).all (·.oneCell') = true := by
  simp [cellsOf, Value.oneCell']

theorem size24 : (Tryf.prog.info? 24).map (·.size) = some 32 := by kernel_rfl
theorem size22 : (Tryf.prog.info? 22).map (·.size) = some 32 := by kernel_rfl

set_option maxHeartbeats 400000 in
/-- (PeerID).String -/
theorem string_any (l : List UInt8) (w : World) (hl : l.length = 32) :
    Calls Tryf.prog 5 #[.agg (cellsOf l)] w fun e w' => e = .returned (.string ⟨(Lib.Hx.encode l).toArray⟩) ∧ Below w.heap.size w w' := by
  have hcell : ∀ i (h : i < l.length), (w.alloc (.cells (cellsOf l) 24)).cell? ⟨w.heap.size, 0 + i, none⟩ = some (.int .u8 ((l[i]'h).toNat : Int)) := by
    intro i h
    rw [Nat.zero_add, cell_of_row _ _ i (cellsOf l) 24 (0, 0) (heap_alloc_new _ _)]
    exact cellsOf_at l i h
  have hc := Tryf.hex_EncodeToString_bytes w.heap.size 0 32 l (w.alloc (.cells (cellsOf l) 24)) hcell (by simp) (by omega)
  rw [hl] at hc
  clear hcell
  go_enter Tryf.func5, Tryf.ntmps5
  go_wp2_with fail
  refine hc.mono ?_
  rintro e w' ⟨rfl, hb⟩
  clear hc
  go_wp2
  go_ret
  exact ⟨rfl, ((Below.refl _ _).alloc (Nat.le_refl _) _).trans (hb.mono (by simp))⟩

/-- The format of ParsePeerID's error. -/
def fmtQ : ByteArray := ⟨#[112, 101, 101, 114, 32, 105, 100, 32, 37, 113, 32, 105, 115, 32, 110, 111, 116, 32, 54, 52, 32, 104, 101, 120, 97, 100, 101, 99, 105, 109, 97, 108, 32, 99, 104, 97, 114, 97, 99, 116, 101, 114, 115]⟩

def shape9 : List UInt8 := [12, 6, 0, 0, 0, 0, 0, 0, 0, 115, 116, 114, 105, 110, 103]

set_option maxHeartbeats 400000 in
/-- fmt.Errorf at that format: it is not nil. -/
theorem errorf_q (F : Interp) (s : ByteArray) (g : Nat) (w : World) (hF : F.answers w.tape) (hc : w.cell? ⟨g, 0, none⟩ = some (.iface 9 (.string s))) :
    Calls Tryf.prog 17 #[.string fmtQ, .slice (some ⟨g, 0, none⟩) 1 1] w fun e w' => e = .returned (.iface 48 (.pointer (some ⟨w.heap.size, 0, none⟩))) ∧ Below w.heap.size w w' := by
  have hF' := answers_open hF
  have c18 : ∀ (args : Array Value) (w : World), (callFunc 18 args).run Tryf.prog w = ((FmtStop.errorf #[9, 45] #[27] args).run Tryf.prog w).andThen fun v w' => .ok (.value v) w' :=
    fun args w => run_callFunc_extern Tryf.func18 (by kernel_rfl) (by kernel_rfl) (by kernel_rfl) (by kernel_rfl) args w
  have hgd : ∀ (name : String) (w : World), (FmtStop.guard name).run Tryf.prog w = .ok () w := fun name w => by kernel_rfl
  have f0 : FmtStop.printed? fmtQ 1 = some [(0, 113, false)] := by kernel_rfl
  have f0r : ∀ w : World, (FmtDoors.printed fmtQ 1).run Tryf.prog w = .ok [(0, 113, false)] w := fun w => by kernel_rfl
  have o1 : ∀ (name : String) (x : ByteArray) (w : World), (FmtStop.operand name false 113 false (.iface 9 (.string x))).run Tryf.prog w = .ok (shape9, FmtStop.pack x.data.toList) w := fun name x w => by kernel_rfl
  have o2 : ∀ (name : String) (x : ByteArray) (w : World), (FmtStop.operand name true 113 false (.iface 9 (.string x))).run Tryf.prog w = .ok (shape9, FmtStop.pack x.data.toList) w := fun name x w => by kernel_rfl
  have st : ∀ (name : String) (x : ByteArray) (w : World), (FmtStop.strict name (.iface 9 (.string x))).run Tryf.prog w = .ok (shape9, FmtStop.pack x.data.toList) w := fun name x w => by kernel_rfl
  have p48 : ∀ w : World, (FmtStop.ptrTo "errors.errorString").run Tryf.prog w = .ok 48 w := fun w => by kernel_rfl
  have e48 : ∀ w : World, (elemOf 48).run Tryf.prog w = .ok 50 w := fun w => by kernel_rfl
  have i48 : ∀ w : World, (FmtDoors.textMethod 48 "Error").run Tryf.prog w = .ok true w := fun w => by kernel_rfl
  go_enter Tryf.func17, Tryf.ntmps17
  go_wp2
  go_ret
  exact ⟨rfl, ((Below.refl _ _).alloc (Nat.le_refl _) _).drew⟩
end Go.Proofs.Qxb6628775aFmt
