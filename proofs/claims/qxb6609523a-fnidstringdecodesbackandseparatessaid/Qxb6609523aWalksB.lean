/-
  THE WALKS of seat b6609523a, second part: ID.String; the law on its digits.
-/
import Derived.Test.Qxb6609523aWalksA
import Derived.Test.Qxb6609523aShelf
import Derived.Deep.QuietTactic
import Derived.BigQuiet
namespace Go.Proofs.Qxb6609523a
open Go.RowKit Go.Lib

/-- The cells of an ID. -/
def cellsId (xs : List Int) : Array Value := (xs.map (Value.int .u8)).toArray

/-- The text of an ID. -/
def hexStr (xs : List Int) : ByteArray := ⟨(Hx.encode (Lib.bytesOf xs)).toArray⟩

theorem cellsId_at (xs : List Int) (i : Nat) (h : i < xs.length) : (cellsId xs)[i]? = some (.int .u8 (xs.getD i 0)) := by
  simp [cellsId, h]

set_option maxHeartbeats 400000 in
theorem string_any (xs : List Int) (h20 : xs.length = 20) (hr : ∀ i, i < 20 → 0 ≤ xs.getD i 0 ∧ xs.getD i 0 < 256) (w : World) :
    Calls Try.prog 13 #[.agg (cellsId xs)] w fun e w' => e = .returned (.string (hexStr xs)) ∧ Below w.heap.size w w' := by
  have hc : ∀ i, i < 20 → (w.alloc (.cells (cellsId xs) 27)).cell? ⟨w.heap.size, 0 + i, none⟩ = some (.int .u8 (xs.getD i 0)) := fun i hi => by
    rw [Nat.zero_add, World.cell?_alloc_new, cellsId_at xs i (by omega)]
  go_enter Try.func13, Try.ntmps13
  go_wp2_with fail
  refine (Try.hex_EncodeToString w.heap.size 0 20 20 xs _ h20 hr hc (by simp) (by omega)).mono ?_
  rintro e w1 ⟨rfl, hb⟩
  go_wp2
  go_ret
  exact ⟨rfl, ((Below.refl _ _).alloc (Nat.le_refl _) _).trans (hb.mono (by simp))⟩

theorem hexStr_size (xs : List Int) : (hexStr xs).size = 2 * xs.length := by
  show (Hx.encode (Lib.bytesOf xs)).toArray.size = _
  rw [List.size_toArray, Hx.encode_length, Lib.bytesOf_length]

theorem digit_hexd (d : Nat) (h : d < 16) : ((Hx.digit d).toNat : Int) = hexd d := by
  have : ∀ d : Fin 16, ((Hx.digit d.val).toNat : Int) = hexd d.val := by decide
  exact this ⟨d, h⟩

theorem hexStr_hi (xs : List Int) (k : Nat) (hk : k < xs.length) (hr : 0 ≤ xs.getD k 0 ∧ xs.getD k 0 < 256) (h : 2 * k < (hexStr xs).size) :
    (((hexStr xs)[2 * k]'h).toNat : Int) = hexd (xs.getD k 0 / 16) := by
  have e := (Hx.encode_at (Lib.bytesOf xs) k _ (Hx.bytes_at xs k hk)).1
  have e2 : (hexStr xs)[2 * k]'h = Hx.digit ((UInt8.ofNat (xs.getD k 0).toNat).toNat / 16) := by
    have : ((Hx.encode (Lib.bytesOf xs)).toArray)[2 * k]? = some ((hexStr xs)[2 * k]'h) := Array.getElem?_eq_getElem _
    rw [List.getElem?_toArray, e] at this
    exact (Option.some.inj this).symm
  rw [e2, Hx.byte_toNat _ hr.1 hr.2, digit_hexd _ (by omega)]
  congr 1
  omega

theorem hexStr_lo (xs : List Int) (k : Nat) (hk : k < xs.length) (hr : 0 ≤ xs.getD k 0 ∧ xs.getD k 0 < 256) (h : 2 * k + 1 < (hexStr xs).size) :
    (((hexStr xs)[2 * k + 1]'h).toNat : Int) = hexd (xs.getD k 0 % 16) := by
  have e := (Hx.encode_at (Lib.bytesOf xs) k _ (Hx.bytes_at xs k hk)).2
  have e2 : (hexStr xs)[2 * k + 1]'h = Hx.digit ((UInt8.ofNat (xs.getD k 0).toNat).toNat % 16) := by
    have : ((Hx.encode (Lib.bytesOf xs)).toArray)[2 * k + 1]? = some ((hexStr xs)[2 * k + 1]'h) := Array.getElem?_eq_getElem _
    rw [List.getElem?_toArray, e] at this
    exact (Option.some.inj this).symm
  rw [e2, Hx.byte_toNat _ hr.1 hr.2, digit_hexd _ (by omega)]
  congr 1
  omega

end Go.Proofs.Qxb6609523a
