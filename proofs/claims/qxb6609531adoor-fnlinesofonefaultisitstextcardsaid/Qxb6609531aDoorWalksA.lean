/-
  THE WALKS of seat b6609531aD, first part: the small functions.
-/
import Derived.Test.Qxb6609531aDoorRows
import Derived.WalkKit
import Derived.WalkSpells
import Derived.WalkLawsBesides
namespace Go.Proofs.Qxb6609531aDoor
open Go.RowKit

/-- The pointer as a fault shows it. -/
def shown (p : ByteArray) : ByteArray := if p.toList.isEmpty then ⟨#[47]⟩ else p

/-- A fault's line. -/
def line (p m : ByteArray) : ByteArray := shown p ++ ⟨#[58, 32]⟩ ++ m

set_option maxHeartbeats 400000 in
theorem bytes_yes (p m : ByteArray) (h : p.size + m.size ≤ 1048576) (w : World) :
    Calls Tryd.prog 4 #[.string p, .string m] w fun e w' => e = .returned (.bool true) ∧ w' = w := by
  have h1 : ¬ (1048576 : Int) < (p.size : Int) := by omega
  have h2 : ¬ (1048576 : Int) < (m.size : Int) := by omega
  have h3 : ¬ (1048576 : Int) < (p.size : Int) + (m.size : Int) := by omega
  go_enter Tryd.func4, Tryd.ntmps4
  go_wp2
  go_ret
  exact ⟨rfl, rfl⟩

set_option maxHeartbeats 400000 in
theorem bytes_no (p m : ByteArray) (hp : p.size ≤ maxLen) (hm : m.size ≤ maxLen) (h : ¬ p.size + m.size ≤ 1048576) (w : World) :
    Calls Tryd.prog 4 #[.string p, .string m] w fun e w' => e = .returned (.bool false) ∧ w' = w := by
  unfold maxLen at hp hm
  go_enter Tryd.func4, Tryd.ntmps4
  go_wp2
  all_goals (go_ret; exact ⟨rfl, rfl⟩)

set_option maxHeartbeats 400000 in
theorem shown_any (p : ByteArray) (w : World) :
    Calls Tryd.prog 8 #[.string p] w fun e w' => e = .returned (.string (shown p)) ∧ w' = w := by
  cases hp : p.toList.isEmpty
  · go_enter Tryd.func8, Tryd.ntmps8
    go_wp2
    go_ret
    exact ⟨by simp [shown, hp], rfl⟩
  · go_enter Tryd.func8, Tryd.ntmps8
    go_wp2
    go_ret
    exact ⟨by simp [shown, hp], rfl⟩

set_option maxHeartbeats 400000 in
theorem error_any (p m : ByteArray) (b : Nat) (w : World) (h0 : w.cell? ⟨b, 0, none⟩ = some (.string p)) (h1 : w.cell? ⟨b, 1, none⟩ = some (.string m)) (hp : p.size + m.size ≤ 1048576) :
    Calls Tryd.prog 11 #[.pointer (some ⟨b, 0, none⟩)] w fun e w' => e = .returned (.string (line p m)) ∧ w' = w := by
  cases he : p.toList.isEmpty
  · go_enter Tryd.func11, Tryd.ntmps11
    go_wp2
    go_ret
    exact ⟨by simp [line, shown, he], rfl⟩
  · go_enter Tryd.func11, Tryd.ntmps11
    go_wp2
    go_ret
    exact ⟨by simp [line, shown, he], rfl⟩

end Go.Proofs.Qxb6609531aDoor
