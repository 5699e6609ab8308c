/-
  FnInIDOrderJoinsAtAnyCut of seat b6612769a: the ways that end at once.
-/
import Derived.Test.Qxb6612769aJoinL
namespace Go.Proofs.Qxb6612769a
open Go.RowKit

set_option maxHeartbeats 1000000 in
set_option maxRecDepth 20000 in
theorem join_big (a0 a1 : Option Addr) (n c0 m c1 : Nat) (cut : Int) (w : World) (hn : n ≤ maxLen) (hm : m ≤ maxLen) (hb : ¬ n + m ≤ 1048576) :
    Calls Try.prog 3 #[.slice a0 n c0, .slice a1 m c1, .int .i64 cut] w fun e w' => e = .returned (.bool true) ∧ Below w.heap.size w w' := by
  go_enter Try.func3, Try.ntmps3
  go_wp2_with (go_at_call 6; refine (bytes_no a0 a1 n c0 m c1 cut hn hm hb _).mono ?_; rintro e wq ⟨rfl, hwq⟩; subst wq)
  go_ret
  exact ⟨rfl, Below.refl _ _⟩

set_option maxHeartbeats 1000000 in
set_option maxRecDepth 20000 in
theorem join_long (a0 a1 : Option Addr) (n c0 m c1 : Nat) (cut : Int) (w : World) (hb : n + m ≤ 1048576) (hl : ¬ (n ≤ 16384 ∧ m ≤ 16384)) :
    Calls Try.prog 3 #[.slice a0 n c0, .slice a1 m c1, .int .i64 cut] w fun e w' => e = .returned (.bool true) ∧ Below w.heap.size w w' := by
  by_cases h1 : (16384 : Int) < (n : Int)
  · go_enter Try.func3, Try.ntmps3
    go_wp2_with (go_at_call 6; refine (bytes_yes a0 a1 n c0 m c1 cut hb _).mono ?_; rintro e wq ⟨rfl, hwq⟩; subst wq)
    go_ret
    exact ⟨rfl, Below.refl _ _⟩
  · have h2 : (16384 : Int) < (m : Int) := by omega
    go_enter Try.func3, Try.ntmps3
    go_wp2_with (go_at_call 6; refine (bytes_yes a0 a1 n c0 m c1 cut hb _).mono ?_; rintro e wq ⟨rfl, hwq⟩; subst wq)
    go_ret
    exact ⟨rfl, Below.refl _ _⟩

set_option maxHeartbeats 1000000 in
set_option maxRecDepth 20000 in
theorem join_out (a0 a1 : Option Addr) (n c0 m c1 : Nat) (cut : Int) (w : World) (hn : n ≤ 16384) (hm : m ≤ 16384) (hl : ¬ (0 ≤ cut ∧ cut ≤ (m : Int))) :
    Calls Try.prog 3 #[.slice a0 n c0, .slice a1 m c1, .int .i64 cut] w fun e w' => e = .returned (.bool true) ∧ Below w.heap.size w w' := by
  have hb : n + m ≤ 1048576 := by omega
  have g1 : ¬ (16384 : Int) < (n : Int) := by omega
  have g2 : ¬ (16384 : Int) < (m : Int) := by omega
  by_cases h1 : cut < 0
  · go_enter Try.func3, Try.ntmps3
    go_wp2_with (go_at_call 6; refine (bytes_yes a0 a1 n c0 m c1 cut hb _).mono ?_; rintro e wq ⟨rfl, hwq⟩; subst wq)
    go_ret
    exact ⟨rfl, Below.refl _ _⟩
  · have h2 : (m : Int) < cut := by omega
    go_enter Try.func3, Try.ntmps3
    go_wp2_with (go_at_call 6; refine (bytes_yes a0 a1 n c0 m c1 cut hb _).mono ?_; rintro e wq ⟨rfl, hwq⟩; subst wq)
    go_ret
    exact ⟨rfl, Below.refl _ _⟩

set_option maxHeartbeats 1000000 in
set_option maxRecDepth 20000 in
theorem join_off (a0 a1 : Option Addr) (n c0 m c1 cut : Nat) (zs : List Int) (d1 : Nat → Addr) (w : World) (hn : n ≤ 16384) (hm : m ≤ 16384) (hc : cut ≤ m) (h1 : RowAt 23 .i64 w a1 m c1 zs d1) (hp : inPool zs (n : Int) = false) :
    Calls Try.prog 3 #[.slice a0 n c0, .slice a1 m c1, .int .i64 (cut : Int)] w fun e w' => e = .returned (.bool true) ∧ Below w.heap.size w w' := by
  have hb : n + m ≤ 1048576 := by omega
  have g1 : ¬ (16384 : Int) < (n : Int) := by omega
  have g2 : ¬ (16384 : Int) < (m : Int) := by omega
  have g3 : ¬ (cut : Int) < 0 := by omega
  have g4 : ¬ (m : Int) < (cut : Int) := by omega
  have q : m ≤ maxLen := by unfold maxLen; omega
  have HP : Hid (inPool zs (n : Int) = false) := hp
  clear hp
  go_enter Try.func3, Try.ntmps3
  go_wp2_with (first
    | (go_at_call 6; refine (bytes_yes a0 a1 n c0 m c1 cut hb _).mono ?_; rintro e wq ⟨rfl, hwq⟩; subst wq)
    | (go_at_call 7; refine (picks_any a1 m c1 zs d1 n _ q h1).mono ?_; rintro e wq ⟨rfl, hwq⟩; subst wq; rw [HP.out]))
  go_ret
  exact ⟨rfl, Below.refl _ _⟩

end Go.Proofs.Qxb6612769a
