/-
  THE WALKS of seat b6609523a, first part: the two small functions on digits.
-/
import Derived.Test.Qxb6609523aRows
import Derived.WalkKit
import Derived.WalkSpells
import Derived.WalkLawsBesides
namespace Go.Proofs.Qxb6609523a
open Go.RowKit

/-- The lower-case hexadecimal digit of a number below 16, as a byte. -/
def hexd (v : Int) : Int := if v < 10 then 48 + v else 87 + v

theorem ret_int {k : IntKind} {a b : Int} (h : a = b) : Ending.returned (.int k a) = .returned (.int k b) := by rw [h]

theorem ret_two {k : IntKind} {a b : Int} {v : Value} (h : a = b) : Ending.returned (.tuple #[.int k a, v]) = .returned (.tuple #[.int k b, v]) := by rw [h]

set_option maxHeartbeats 400000 in
/-- zzLowerHexDigit. -/
theorem digit_any (v : Int) (h0 : 0 ≤ v) (h1 : v < 16) (w : World) :
    Calls Try.prog 14 #[.int .u8 v] w fun e w' => e = .returned (.int .u8 (hexd v)) ∧ w' = w := by
  by_cases c : v < 10
  · go_enter Try.func14, Try.ntmps14
    go_wp2
    go_ret
    exact ⟨ret_int (by unfold hexd; split <;> omega), rfl⟩
  · go_enter Try.func14, Try.ntmps14
    go_wp2
    go_ret
    exact ⟨ret_int (by unfold hexd; split <;> omega), rfl⟩

set_option maxHeartbeats 400000 in
/-- zzHexValue at a digit. -/
theorem value_any (v : Int) (h0 : 0 ≤ v) (h1 : v < 16) (w : World) :
    Calls Try.prog 19 #[.int .u8 (hexd v)] w fun e w' => e = .returned (.tuple #[.int .u8 v, .bool true]) ∧ w' = w := by
  unfold hexd
  by_cases c : v < 10
  · rw [if_pos c]
    go_enter Try.func19, Try.ntmps19
    go_wp2
    go_ret2
    exact ⟨ret_two (by omega), rfl⟩
  · rw [if_neg c]
    have c2 : 10 ≤ v := by omega
    clear c
    go_enter Try.func19, Try.ntmps19
    go_wp2
    go_ret2
    exact ⟨ret_two (by omega), rfl⟩

end Go.Proofs.Qxb6609523a
