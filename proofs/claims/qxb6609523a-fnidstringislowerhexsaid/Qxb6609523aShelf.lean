/-
  DERIVED: THE SHELF's CONTRACTS AT THIS DUMP, IN PLAIN WORDS (tools/lay-plain.mjs out of 'TryShelf.lean', which tools/lay-shelf.mjs wrote): THE SAME DECLARATIONS UNDER THE SAME NAMES: 'import', 'namespace', 'open', 'def', 'theorem' AND NOTHING ELSE: no command of the shelf's: FOR A HAND-IN. Each laying: the table of numbers ('.._ren') and one theorem, a field a fact of the dump's own or the kernel's comparison; each contract: ONE APPLICATION.
-/
import Derived.Ground.PaProg
import Derived.Shelf.Hex.Lens
import Derived.Shelf.Hex.Encode
import Derived.Shelf.Hex.More
import Derived.Test.Qxb6609523aProg
namespace Go.Proofs
open Go.Shelf
def Try.laysPa41_ren : Go.Shelf.Ren := ⟨fun | 41 => 21 | n => n, fun | 3 => 3 | n => n, fun | n => n⟩
theorem Try.laysPa41 : Go.Proofs.Lays.p41 Try.prog Try.laysPa41_ren := {
  mixed := by kernel_rfl
  f41 := Try.func21.trans (congrArg some (by kernel_rfl))
  t3 := Try.underlying3
  a3 := Try.isAgg3
  z3 := Try.sizeOf3
  v3 := Try.zeroValue3 }
open Go.RowKit Go.Lib in
theorem Try.hex_EncodedLen (n : Int) (h0 : 0 ≤ n) (h1 : n < 4611686018427387904) (w : World) :
    Calls Try.prog 21 #[.int .i64 n] w fun e w' => e = .returned (.int .i64 (n * 2)) ∧ w' = w := Any.hex_EncodedLen Try.laysPa41 n h0 h1 w
def Try.laysPa40_ren : Go.Shelf.Ren := ⟨fun | 40 => 22 | n => n, fun | 30 => 22 | 3 => 3 | 0 => 0 | 5 => 5 | 46 => 43 | 9 => 9 | n => n, fun | n => n⟩
theorem Try.laysPa40 : Go.Proofs.Lays.p40 Try.prog Try.laysPa40_ren := {
  mixed := by kernel_rfl
  f40 := Try.func22.trans (congrArg some (by kernel_rfl))
  t0 := Try.underlying0
  a0 := Try.isAgg0
  z0 := Try.sizeOf0
  v0 := Try.zeroValue0
  t3 := Try.underlying3
  a3 := Try.isAgg3
  z3 := Try.sizeOf3
  v3 := Try.zeroValue3
  t5 := Try.underlying5
  a5 := Try.isAgg5
  z5 := Try.sizeOf5
  v5 := Try.zeroValue5
  t9 := Try.underlying9
  a9 := Try.isAgg9
  z9 := Try.sizeOf9
  v9 := Try.zeroValue9
  t30 := Try.underlying22
  a30 := Try.isAgg22
  z30 := Try.sizeOf22
  v30 := Try.zeroValue22
  t46 := Try.underlying43
  a46 := Try.isAgg43
  z46 := Try.sizeOf43
  v46 := Try.zeroValue43 }
open Go.RowKit Go.Lib in
theorem Try.hex_Encode (bd od nd cd N : Nat) (f : Nat → Value) (bs os n cs : Nat) (xs : List Int) (w : World) (hx : xs.length = n) (hr : ∀ i, i < n → 0 ≤ xs.getD i 0 ∧ xs.getD i 0 < 256) (hsrc : ∀ i, i < n → w.cell? ⟨bs, os + i, none⟩ = some (.int .u8 (xs.getD i 0))) (hrow : w.rowIs bd 5 N f) (hfit : od + nd ≤ N) (hlen : 2 * n ≤ nd) (hne : bd ≠ bs) (hbig : n ≤ 4611686018427387903) :
    Calls Try.prog 22 #[.slice (some ⟨bd, od, none⟩) nd cd, .slice (some ⟨bs, os, none⟩) n cs] w fun e w' => e = .returned (.int .i64 ((n : Int) * 2)) ∧ w'.rowIs bd 5 N (Hx.row f od (Lib.bytesOf xs) n) ∧ w.grownBy w' (some bd) := Any.hex_Encode Try.laysPa40 bd od nd cd N f bs os n cs xs w hx hr hsrc hrow hfit hlen hne hbig
def Try.laysPah39_ren : Go.Shelf.Ren := ⟨fun | 39 => 18 | 41 => 21 | 40 => 22 | n => n, fun | 30 => 22 | 9 => 9 | 3 => 3 | 0 => 0 | 5 => 5 | 46 => 43 | n => n, fun | n => n⟩
theorem Try.laysPah39 : Go.Proofs.Lays.ph39 Try.prog Try.laysPah39_ren := {
  mixed := by kernel_rfl
  f39 := Try.func18.trans (congrArg some (by kernel_rfl))
  f40 := Try.func22.trans (congrArg some (by kernel_rfl))
  f41 := Try.func21.trans (congrArg some (by kernel_rfl))
  t0 := Try.underlying0
  a0 := Try.isAgg0
  z0 := Try.sizeOf0
  v0 := Try.zeroValue0
  t3 := Try.underlying3
  a3 := Try.isAgg3
  z3 := Try.sizeOf3
  v3 := Try.zeroValue3
  t5 := Try.underlying5
  a5 := Try.isAgg5
  z5 := Try.sizeOf5
  v5 := Try.zeroValue5
  t9 := Try.underlying9
  a9 := Try.isAgg9
  z9 := Try.sizeOf9
  v9 := Try.zeroValue9
  t30 := Try.underlying22
  a30 := Try.isAgg22
  z30 := Try.sizeOf22
  v30 := Try.zeroValue22
  t46 := Try.underlying43
  a46 := Try.isAgg43
  z46 := Try.sizeOf43
  v46 := Try.zeroValue43
  info5 := by kernel_rfl }
open Go.RowKit Go.Lib in
theorem Try.hex_EncodeToString (bs os n cs : Nat) (xs : List Int) (w : World) (hx : xs.length = n) (hr : ∀ i, i < n → 0 ≤ xs.getD i 0 ∧ xs.getD i 0 < 256) (hsrc : ∀ i, i < n → w.cell? ⟨bs, os + i, none⟩ = some (.int .u8 (xs.getD i 0))) (hb : bs < w.heap.size) (hbig : 2 * n ≤ 281474976710656) :
    Calls Try.prog 18 #[.slice (some ⟨bs, os, none⟩) n cs] w fun e w' => e = .returned (.string ⟨(Hx.encode (Lib.bytesOf xs)).toArray⟩) ∧ Below w.heap.size w w' := Any.hex_EncodeToString Try.laysPah39 bs os n cs xs w hx hr hsrc hb hbig
open Go.RowKit Go.Lib in
theorem Try.hex_Encode_nil (dst : Value) (w : World) :
    Calls Try.prog 22 #[dst, .slice none 0 0] w fun e w' => e = .returned (.int .i64 0) ∧ w' = w := Any.hex_Encode_nil Try.laysPa40 dst w
open Go.RowKit Go.Lib in
theorem Try.hex_EncodeToString_nil (w : World) :
    Calls Try.prog 18 #[.slice none 0 0] w fun e w' => e = .returned (.string ⟨#[]⟩) ∧ Below w.heap.size w w' := Any.hex_EncodeToString_nil Try.laysPah39 w
open Go.RowKit Go.Lib in
theorem Try.hex_EncodeToString_bytes (bs os cs : Nat) (l : List UInt8) (w : World) (hsrc : ∀ i (h : i < l.length), w.cell? ⟨bs, os + i, none⟩ = some (.int .u8 ((l[i]'h).toNat : Int))) (hb : bs < w.heap.size) (hbig : 2 * l.length ≤ 281474976710656) :
    Calls Try.prog 18 #[.slice (some ⟨bs, os, none⟩) l.length cs] w fun e w' => e = .returned (.string ⟨(Hx.encode l).toArray⟩) ∧ Below w.heap.size w w' := Any.hex_EncodeToString_bytes Try.laysPah39 bs os cs l w hsrc hb hbig
end Go.Proofs
