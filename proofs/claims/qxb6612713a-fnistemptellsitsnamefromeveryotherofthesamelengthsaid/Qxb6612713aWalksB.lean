/-
  THE WALKS of seat b6612713a, second part: the two laws.
-/
import Derived.Test.Qxb6612713aWalksA
namespace Go.Proofs.Qxb6612713a
open Go.RowKit

/-- The temporary name, as the walk spells it. -/
def tStr (name mid : ByteArray) : ByteArray := ⟨#[46]⟩ ++ name ++ ⟨#[46]⟩ ++ mid ++ ⟨#[46, 116, 109, 112]⟩

theorem tStr_list (name mid : ByteArray) : (tStr name mid).data.toList = tName name.data.toList mid.data.toList := by simp [tStr, tName, tmpB]
theorem tStr_size (name mid : ByteArray) : (tStr name mid).size = name.size + mid.size + 6 := by
  simp only [tStr, ByteArray.size_append]
  show 1 + name.size + 1 + mid.size + 4 = _
  omega
theorem tmp_list (s : ByteArray) : (s ++ ⟨#[46, 116, 109, 112]⟩ : ByteArray).data.toList = s.data.toList ++ tmpB := by simp [tmpB]
theorem app_list (s t : ByteArray) : (s ++ t).data.toList = s.data.toList ++ t.data.toList := by simp
theorem tmp_size (s : ByteArray) : (s ++ ⟨#[46, 116, 109, 112]⟩ : ByteArray).size = s.size + 4 := by
  rw [ByteArray.size_append]; rfl

set_option maxHeartbeats 400000 in
theorem b5 (a b c : ByteArray) (ha : a.size ≤ maxLen) (hb : b.size ≤ maxLen) (hc : c.size ≤ maxLen) (w : World) :
    Calls Try.prog 5 #[.string a, .string b, .string c] w fun e w' => e = .returned (.bool (decide (a.size + b.size + c.size ≤ 1048576))) ∧ w' = w := by
  unfold maxLen at ha hb hc
  go_enter Try.func5, Try.ntmps5
  go_wp2
  all_goals
    go_ret
    refine ⟨ret_bool ?_, rfl⟩
    symm
    first | (apply decide_eq_true; omega) | (apply decide_eq_false; omega)

set_option maxHeartbeats 400000 in
theorem b7 (a b c : ByteArray) (ha : a.size ≤ maxLen) (hb : b.size ≤ maxLen) (hc : c.size ≤ maxLen) (w : World) :
    Calls Try.prog 7 #[.string a, .string b, .string c] w fun e w' => e = .returned (.bool (decide (a.size + b.size + c.size ≤ 1048576))) ∧ w' = w := by
  unfold maxLen at ha hb hc
  go_enter Try.func7, Try.ntmps7
  go_wp2
  all_goals
    go_ret
    refine ⟨ret_bool ?_, rfl⟩
    symm
    first | (apply decide_eq_true; omega) | (apply decide_eq_false; omega)

end Go.Proofs.Qxb6612713a
