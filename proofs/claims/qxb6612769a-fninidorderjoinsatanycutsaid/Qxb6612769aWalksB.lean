/-
  THE WALKS of seat b6612769a, second part: zzSameInts at two equal rows; cmp.Compare; the closure.
-/
import Derived.Test.Qxb6612769aWalksA
namespace Go.Proofs.Qxb6612769a
open Go.RowKit

set_option maxHeartbeats 400000 in
/-- zzSameInts at two rows that hold the same. -/
theorem same_any (a b : Option Addr) (len cap cap' : Nat) (zs : List Int) (adr adr' : Nat → Addr) (w : World) (hl : len ≤ maxLen) (hR : RowAt 23 .i64 w a len cap zs adr) (hS : RowAt 23 .i64 w b len cap' zs adr') :
    Calls Try.prog 11 #[.slice a len cap, .slice b len cap'] w fun e w' => e = .returned (.bool true) ∧ Below w.heap.size w w' := by
  unfold maxLen at hl
  have HI := hR.idx
  have HC := hR.cell
  have KI := hS.idx
  have KC := hS.cell
  have HI' : Hid (∀ i : Nat, i < len → ∀ W : World, (Instr.indexAt 23 (.slice a len cap) (.int .i64 (i : Int))).run Try.prog W = .ok (.pointer (some (adr i))) W) := HI
  have KI' : Hid (∀ i : Nat, i < len → ∀ W : World, (Instr.indexAt 23 (.slice b len cap') (.int .i64 (i : Int))).run Try.prog W = .ok (.pointer (some (adr' i))) W) := KI
  have HC' : Hid (∀ i : Nat, i < len → w.cell? (adr i) = some (.int .i64 (zs.getD i 0))) := HC
  have KC' : Hid (∀ i : Nat, i < len → w.cell? (adr' i) = some (.int .i64 (zs.getD i 0))) := KC
  clear HI HC KI KC hR hS
  have hne : ((len : Int) != (len : Int)) = false := by simp
  go_enter Try.func11, Try.ntmps11
  go_wp2
  go_loopw [5] (fun i wr => ∃ k : Nat, k ≤ len ∧ i = .int .i64 k ∧ Hid (∃ q, wr = w.drewN q)) (fun i _ => len - (intOf i).toNat)
  case atStart => exact ⟨0, Nat.zero_le _, rfl, ⟨0, rfl⟩⟩
  case round =>
    obtain ⟨k, hk, rfl, hw⟩ := hrel
    by_cases hlt : k < len
    · have f1 := HI'.out k hlt
      have g1 := KI'.out k hlt
      have f2 : wr.cell? (adr k) = some (.int .i64 (zs.getD k 0)) := by obtain ⟨q, rfl⟩ := hw.out; exact HC'.out k hlt
      have g2 : wr.cell? (adr' k) = some (.int .i64 (zs.getD k 0)) := by obtain ⟨q, rfl⟩ := hw.out; exact KC'.out k hlt
      generalize zs.getD k 0 = x at f2 g2
      go_wp2
      go_quiet (fail)
      go_wp2
      go_roundw
      case rel => exact ⟨k + 1, by omega, by go_num, by obtain ⟨q, rfl⟩ := hw.out; exact ⟨q + nq, by simp⟩⟩
      case measure => simp [intOf]; omega
    · go_wp2
      go_ret
      refine ⟨rfl, ?_⟩
      obtain ⟨q, rfl⟩ := hw.out
      exact below_drewN (Below.refl _ _) q

/-- What cmp.Compare answers. -/
def cmpI (x y : Int) : Int := if x < y then -1 else if y < x then 1 else 0

set_option maxHeartbeats 400000 in
/-- cmp.Compare at TxnID. -/
theorem compare_any (x y : Int) (w : World) : Calls Try.prog 31 #[.int .u64 x, .int .u64 y] w fun e w' => e = .returned (.int .i64 (cmpI x y)) ∧ w' = w := by
  by_cases h1 : x < y
  · have e : cmpI x y = -1 := by unfold cmpI; rw [if_pos h1]
    rw [e]
    go_enter Try.func31, Try.ntmps31
    go_wp2
    go_ret
    exact ⟨rfl, rfl⟩
  · by_cases h2 : y < x
    · have e : cmpI x y = 1 := by unfold cmpI; rw [if_neg h1, if_pos h2]
      rw [e]
      go_enter Try.func31, Try.ntmps31
      go_wp2
      go_ret
      exact ⟨rfl, rfl⟩
    · have e : cmpI x y = 0 := by unfold cmpI; rw [if_neg h1, if_neg h2]
      rw [e]
      go_enter Try.func31, Try.ntmps31
      go_wp2
      go_ret
      exact ⟨rfl, rfl⟩

set_option maxHeartbeats 400000 in
/-- The closure of inIDOrder: it compares the two transactions' ids. -/
theorem closure_any (a b : Nat) (x y : Int) (w : World) (ha : w.cell? ⟨a, 8, none⟩ = some (.int .u64 x)) (hb : w.cell? ⟨b, 8, none⟩ = some (.int .u64 y)) :
    Calls Try.prog 30 #[.pointer (some ⟨a, 0, none⟩), .pointer (some ⟨b, 0, none⟩)] w fun e w' => e = .returned (.int .i64 (cmpI x y)) ∧ ∃ q, w' = w.drewN q := by
  go_enter Try.func30, Try.ntmps30
  go_wp2
  go_quiet ((go_at_call 31; exact Calls.quiet_of_same (compare_any x y _)))
  go_wp2
  go_ret
  exact ⟨rfl, nq, rfl⟩

end Go.Proofs.Qxb6612769a
