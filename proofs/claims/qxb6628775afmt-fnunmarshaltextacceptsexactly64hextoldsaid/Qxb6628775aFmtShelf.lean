/- The contracts of encoding/hex at this dump, laid by the tool lay-plain.mjs of the kit for this program (remarks struck). -/
import Derived.Ground.PaProg
import Derived.Shelf.Hex.Tagged
import Derived.Shelf.Hex.Lens
import Derived.Shelf.Hex.Encode
import Derived.Shelf.Hex.Decode
import Derived.Shelf.Hex.More
import Derived.Test.Qxb6628775aFmtProg
namespace Go.Proofs
open Go.Shelf
def Tryf.laysPa40_ren : Go.Shelf.Ren := ⟨fun | 40 => 15 | n => n, fun | 30 => 23 | 3 => 3 | 0 => 0 | 5 => 5 | 46 => 33 | 9 => 9 | n => n, fun | n => n⟩
theorem Tryf.laysPa40 : Go.Proofs.Lays.p40 Tryf.prog Tryf.laysPa40_ren := {
  mixed := by kernel_rfl
  f40 := Tryf.func15.trans (congrArg some (by kernel_rfl))
  t0 := Tryf.underlying0
  a0 := Tryf.isAgg0
  z0 := Tryf.sizeOf0
  v0 := Tryf.zeroValue0
  t3 := Tryf.underlying3
  a3 := Tryf.isAgg3
  z3 := Tryf.sizeOf3
  v3 := Tryf.zeroValue3
  t5 := Tryf.underlying5
  a5 := Tryf.isAgg5
  z5 := Tryf.sizeOf5
  v5 := Tryf.zeroValue5
  t9 := Tryf.underlying9
  a9 := Tryf.isAgg9
  z9 := Tryf.sizeOf9
  v9 := Tryf.zeroValue9
  t30 := Tryf.underlying23
  a30 := Tryf.isAgg23
  z30 := Tryf.sizeOf23
  v30 := Tryf.zeroValue23
  t46 := Tryf.underlying33
  a46 := Tryf.isAgg33
  z46 := Tryf.sizeOf33
  v46 := Tryf.zeroValue33 }
open Go.RowKit Go.Lib in
theorem Tryf.hex_Encode_tag (T : TypeId) (bd od nd cd N : Nat) (f : Nat → Value) (bs os n cs : Nat) (xs : List Int) (w : World) (hx : xs.length = n) (hr : ∀ i, i < n → 0 ≤ xs.getD i 0 ∧ xs.getD i 0 < 256) (hsrc : ∀ i, i < n → w.cell? ⟨bs, os + i, none⟩ = some (.int .u8 (xs.getD i 0))) (hrow : w.rowIs bd T N f) (hfit : od + nd ≤ N) (hlen : 2 * n ≤ nd) (hne : bd ≠ bs) (hbig : n ≤ 4611686018427387903) :
    Calls Tryf.prog 15 #[.slice (some ⟨bd, od, none⟩) nd cd, .slice (some ⟨bs, os, none⟩) n cs] w fun e w' => e = .returned (.int .i64 ((n : Int) * 2)) ∧ w'.rowIs bd T N (Hx.row f od (Lib.bytesOf xs) n) ∧ w.grownBy w' (some bd) := Any.hex_Encode_tag Tryf.laysPa40 T bd od nd cd N f bs os n cs xs w hx hr hsrc hrow hfit hlen hne hbig
def Tryf.laysPa44_ren : Go.Shelf.Ren := ⟨fun | 44 => 16 | n => n, fun | 30 => 23 | 3 => 3 | 35 => 27 | 4 => 4 | 0 => 0 | 5 => 5 | 9 => 9 | 47 => 44 | 46 => 33 | 45 => 25 | n => n, fun | 0 => 0 | n => n⟩
theorem Tryf.laysPa44 : Go.Proofs.Lays.p44 Tryf.prog Tryf.laysPa44_ren := {
  mixed := by kernel_rfl
  f44 := Tryf.func16.trans (congrArg some (by kernel_rfl))
  t0 := Tryf.underlying0
  a0 := Tryf.isAgg0
  z0 := Tryf.sizeOf0
  v0 := Tryf.zeroValue0
  t3 := Tryf.underlying3
  a3 := Tryf.isAgg3
  z3 := Tryf.sizeOf3
  v3 := Tryf.zeroValue3
  t4 := Tryf.underlying4
  a4 := Tryf.isAgg4
  z4 := Tryf.sizeOf4
  v4 := Tryf.zeroValue4
  t5 := Tryf.underlying5
  a5 := Tryf.isAgg5
  z5 := Tryf.sizeOf5
  v5 := Tryf.zeroValue5
  t9 := Tryf.underlying9
  a9 := Tryf.isAgg9
  z9 := Tryf.sizeOf9
  v9 := Tryf.zeroValue9
  t30 := Tryf.underlying23
  a30 := Tryf.isAgg23
  z30 := Tryf.sizeOf23
  v30 := Tryf.zeroValue23
  t35 := Tryf.underlying27
  a35 := Tryf.isAgg27
  z35 := Tryf.sizeOf27
  v35 := Tryf.zeroValue27
  t45 := Tryf.underlying25
  a45 := Tryf.isAgg25
  z45 := Tryf.sizeOf25
  v45 := Tryf.zeroValue25
  t46 := Tryf.underlying33
  a46 := Tryf.isAgg33
  z46 := Tryf.sizeOf33
  v46 := Tryf.zeroValue33
  t47 := Tryf.underlying44
  a47 := Tryf.isAgg44
  z47 := Tryf.sizeOf44
  v47 := Tryf.zeroValue44
  g0 := by kernel_rfl }
open Go.RowKit Go.Lib in
theorem Tryf.hex_Decode_tag (T : TypeId) (bd od nd cd N : Nat) (f : Nat → Value) (bs os n cs : Nat) (xs : List Int) (w : World) (ev : Value) (hx : xs.length = n) (hr : ∀ i, i < n → 0 ≤ xs.getD i 0 ∧ xs.getD i 0 < 256) (hsrc : ∀ i, i < n → w.cell? ⟨bs, os + i, none⟩ = some (.int .u8 (xs.getD i 0))) (hrow : w.rowIs bd T N f) (hfit : od + nd ≤ N) (hlen : n / 2 ≤ nd) (hne : bd ≠ bs) (hbig : n ≤ 4611686018427387903) (hE : w.cell? ⟨0, 0, none⟩ = some ev) (hgb : 0 ≠ bd) :
    Calls Tryf.prog 16 #[.slice (some ⟨bd, od, none⟩) nd cd, .slice (some ⟨bs, os, none⟩) n cs] w fun e w' =>
      e = .returned (.tuple #[.int .i64 ((Hx.decode (Lib.bytesOf xs)).1.length : Int), Hx.errVal 44 ev (Hx.decode (Lib.bytesOf xs)).2]) ∧ w'.rowIs bd T N (Hx.rowP f od (Hx.decode (Lib.bytesOf xs)).1) ∧ w.grownBy w' (some bd) := Any.hex_Decode_tag Tryf.laysPa44 T bd od nd cd N f bs os n cs xs w ev hx hr hsrc hrow hfit hlen hne hbig hE hgb
def Tryf.laysPa41_ren : Go.Shelf.Ren := ⟨fun | 41 => 14 | n => n, fun | 3 => 3 | n => n, fun | n => n⟩
theorem Tryf.laysPa41 : Go.Proofs.Lays.p41 Tryf.prog Tryf.laysPa41_ren := {
  mixed := by kernel_rfl
  f41 := Tryf.func14.trans (congrArg some (by kernel_rfl))
  t3 := Tryf.underlying3
  a3 := Tryf.isAgg3
  z3 := Tryf.sizeOf3
  v3 := Tryf.zeroValue3 }
open Go.RowKit Go.Lib in
theorem Tryf.hex_EncodedLen (n : Int) (h0 : 0 ≤ n) (h1 : n < 4611686018427387904) (w : World) :
    Calls Tryf.prog 14 #[.int .i64 n] w fun e w' => e = .returned (.int .i64 (n * 2)) ∧ w' = w := Any.hex_EncodedLen Tryf.laysPa41 n h0 h1 w
open Go.RowKit Go.Lib in
theorem Tryf.hex_Encode (bd od nd cd N : Nat) (f : Nat → Value) (bs os n cs : Nat) (xs : List Int) (w : World) (hx : xs.length = n) (hr : ∀ i, i < n → 0 ≤ xs.getD i 0 ∧ xs.getD i 0 < 256) (hsrc : ∀ i, i < n → w.cell? ⟨bs, os + i, none⟩ = some (.int .u8 (xs.getD i 0))) (hrow : w.rowIs bd 5 N f) (hfit : od + nd ≤ N) (hlen : 2 * n ≤ nd) (hne : bd ≠ bs) (hbig : n ≤ 4611686018427387903) :
    Calls Tryf.prog 15 #[.slice (some ⟨bd, od, none⟩) nd cd, .slice (some ⟨bs, os, none⟩) n cs] w fun e w' => e = .returned (.int .i64 ((n : Int) * 2)) ∧ w'.rowIs bd 5 N (Hx.row f od (Lib.bytesOf xs) n) ∧ w.grownBy w' (some bd) := Any.hex_Encode Tryf.laysPa40 bd od nd cd N f bs os n cs xs w hx hr hsrc hrow hfit hlen hne hbig
def Tryf.laysPah39_ren : Go.Shelf.Ren := ⟨fun | 39 => 11 | 41 => 14 | 40 => 15 | n => n, fun | 30 => 23 | 9 => 9 | 3 => 3 | 0 => 0 | 5 => 5 | 46 => 33 | n => n, fun | n => n⟩
theorem Tryf.laysPah39 : Go.Proofs.Lays.ph39 Tryf.prog Tryf.laysPah39_ren := {
  mixed := by kernel_rfl
  f39 := Tryf.func11.trans (congrArg some (by kernel_rfl))
  f40 := Tryf.func15.trans (congrArg some (by kernel_rfl))
  f41 := Tryf.func14.trans (congrArg some (by kernel_rfl))
  t0 := Tryf.underlying0
  a0 := Tryf.isAgg0
  z0 := Tryf.sizeOf0
  v0 := Tryf.zeroValue0
  t3 := Tryf.underlying3
  a3 := Tryf.isAgg3
  z3 := Tryf.sizeOf3
  v3 := Tryf.zeroValue3
  t5 := Tryf.underlying5
  a5 := Tryf.isAgg5
  z5 := Tryf.sizeOf5
  v5 := Tryf.zeroValue5
  t9 := Tryf.underlying9
  a9 := Tryf.isAgg9
  z9 := Tryf.sizeOf9
  v9 := Tryf.zeroValue9
  t30 := Tryf.underlying23
  a30 := Tryf.isAgg23
  z30 := Tryf.sizeOf23
  v30 := Tryf.zeroValue23
  t46 := Tryf.underlying33
  a46 := Tryf.isAgg33
  z46 := Tryf.sizeOf33
  v46 := Tryf.zeroValue33
  info5 := by kernel_rfl }
open Go.RowKit Go.Lib in
theorem Tryf.hex_EncodeToString (bs os n cs : Nat) (xs : List Int) (w : World) (hx : xs.length = n) (hr : ∀ i, i < n → 0 ≤ xs.getD i 0 ∧ xs.getD i 0 < 256) (hsrc : ∀ i, i < n → w.cell? ⟨bs, os + i, none⟩ = some (.int .u8 (xs.getD i 0))) (hb : bs < w.heap.size) (hbig : 2 * n ≤ 281474976710656) :
    Calls Tryf.prog 11 #[.slice (some ⟨bs, os, none⟩) n cs] w fun e w' => e = .returned (.string ⟨(Hx.encode (Lib.bytesOf xs)).toArray⟩) ∧ Below w.heap.size w w' := Any.hex_EncodeToString Tryf.laysPah39 bs os n cs xs w hx hr hsrc hb hbig
open Go.RowKit Go.Lib in
theorem Tryf.hex_Encode_nil (dst : Value) (w : World) :
    Calls Tryf.prog 15 #[dst, .slice none 0 0] w fun e w' => e = .returned (.int .i64 0) ∧ w' = w := Any.hex_Encode_nil Tryf.laysPa40 dst w
open Go.RowKit Go.Lib in
theorem Tryf.hex_EncodeToString_nil (w : World) :
    Calls Tryf.prog 11 #[.slice none 0 0] w fun e w' => e = .returned (.string ⟨#[]⟩) ∧ Below w.heap.size w w' := Any.hex_EncodeToString_nil Tryf.laysPah39 w
open Go.RowKit Go.Lib in
theorem Tryf.hex_Decode (bd od nd cd N : Nat) (f : Nat → Value) (bs os n cs : Nat) (xs : List Int) (w : World) (ev : Value) (hx : xs.length = n) (hr : ∀ i, i < n → 0 ≤ xs.getD i 0 ∧ xs.getD i 0 < 256) (hsrc : ∀ i, i < n → w.cell? ⟨bs, os + i, none⟩ = some (.int .u8 (xs.getD i 0))) (hrow : w.rowIs bd 5 N f) (hfit : od + nd ≤ N) (hlen : n / 2 ≤ nd) (hne : bd ≠ bs) (hbig : n ≤ 4611686018427387903) (hE : w.cell? ⟨0, 0, none⟩ = some ev) (hgb : 0 ≠ bd) :
    Calls Tryf.prog 16 #[.slice (some ⟨bd, od, none⟩) nd cd, .slice (some ⟨bs, os, none⟩) n cs] w fun e w' =>
      e = .returned (.tuple #[.int .i64 ((Hx.decode (Lib.bytesOf xs)).1.length : Int), Hx.errVal 44 ev (Hx.decode (Lib.bytesOf xs)).2]) ∧ w'.rowIs bd 5 N (Hx.rowP f od (Hx.decode (Lib.bytesOf xs)).1) ∧ w.grownBy w' (some bd) := Any.hex_Decode Tryf.laysPa44 bd od nd cd N f bs os n cs xs w ev hx hr hsrc hrow hfit hlen hne hbig hE hgb
open Go.RowKit Go.Lib in
theorem Tryf.hex_Decode_nil (dst : Value) (w : World) :
    Calls Tryf.prog 16 #[dst, .slice none 0 0] w fun e w' => e = .returned (.tuple #[.int .i64 0, .nilIface]) ∧ w' = w := Any.hex_Decode_nil Tryf.laysPa44 dst w
open Go.RowKit Go.Lib in
theorem Tryf.hex_EncodeToString_bytes (bs os cs : Nat) (l : List UInt8) (w : World) (hsrc : ∀ i (h : i < l.length), w.cell? ⟨bs, os + i, none⟩ = some (.int .u8 ((l[i]'h).toNat : Int))) (hb : bs < w.heap.size) (hbig : 2 * l.length ≤ 281474976710656) :
    Calls Tryf.prog 11 #[.slice (some ⟨bs, os, none⟩) l.length cs] w fun e w' => e = .returned (.string ⟨(Hx.encode l).toArray⟩) ∧ Below w.heap.size w w' := Any.hex_EncodeToString_bytes Tryf.laysPah39 bs os cs l w hsrc hb hbig
end Go.Proofs
