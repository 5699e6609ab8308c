/-
  THE WALKS of seat b6612769a, first part: the small readers.
-/
import Derived.Test.Qxb6612769aRows
import Derived.WalkKit
import Derived.WalkSpells
import Derived.WalkLawsBesides
import Derived.Deep.QuietTactic
import Derived.BigQuiet
namespace Go.Proofs.Qxb6612769a
open Go.RowKit

/-- A slice of integers as the walks are told of it: its i-th element's address, and what lies there. -/
structure RowAt (T : TypeId) (k : IntKind) (w : World) (a : Option Addr) (len cap : Nat) (zs : List Int) (adr : Nat → Addr) : Prop where
  hlen : zs.length = len
  idx : ∀ i : Nat, i < len → ∀ W : World, (Instr.indexAt T (.slice a len cap) (.int .i64 (i : Int))).run Try.prog W = .ok (.pointer (some (adr i))) W
  cell : ∀ i : Nat, i < len → w.cell? (adr i) = some (.int k (zs.getD i 0))

theorem RowAt.later {T : TypeId} {k : IntKind} {w w' : World} {a : Option Addr} {len cap : Nat} {zs : List Int} {adr : Nat → Addr} (h : RowAt T k w a len cap zs adr) (hb : Below w.heap.size w w') : RowAt T k w' a len cap zs adr :=
  ⟨h.hlen, h.idx, fun i hi => by rw [hb.cell (block_lt_of_cell (h.cell i hi))]; exact h.cell i hi⟩

theorem idx22 (b off len cap i : Nat) (h : i < len) (W : World) : (Instr.indexAt 22 (.slice (some ⟨b, off, none⟩) len cap) (.int .i64 (i : Int))).run Try.prog W = .ok (.pointer (some ⟨b, off + i, none⟩)) W := by
  have h' : (i : Int) < (len : Int) := by omega
  go_simp
theorem idx23 (b off len cap i : Nat) (h : i < len) (W : World) : (Instr.indexAt 23 (.slice (some ⟨b, off, none⟩) len cap) (.int .i64 (i : Int))).run Try.prog W = .ok (.pointer (some ⟨b, off + i, none⟩)) W := by
  have h' : (i : Int) < (len : Int) := by omega
  go_simp

set_option maxHeartbeats 400000 in
/-- zzBytes_..: within the bound. -/
theorem bytes_yes (a0 a1 : Option Addr) (l0 c0 l1 c1 : Nat) (x : Int) (h : l0 + l1 ≤ 1048576) (w : World) :
    Calls Try.prog 6 #[.slice a0 l0 c0, .slice a1 l1 c1, .int .i64 x] w fun e w' => e = .returned (.bool true) ∧ w' = w := by
  have h1 : ¬ (1048576 : Int) < (l0 : Int) := by omega
  have h2 : ¬ (1048576 : Int) < (l1 : Int) := by omega
  have h3 : ¬ (1048576 : Int) < (l0 : Int) + (l1 : Int) := by omega
  go_enter Try.func6, Try.ntmps6
  go_wp2
  go_ret
  exact ⟨rfl, rfl⟩

set_option maxHeartbeats 400000 in
theorem bytes_no (a0 a1 : Option Addr) (l0 c0 l1 c1 : Nat) (x : Int) (b0 : l0 ≤ maxLen) (b1 : l1 ≤ maxLen) (h : ¬ l0 + l1 ≤ 1048576) (w : World) :
    Calls Try.prog 6 #[.slice a0 l0 c0, .slice a1 l1 c1, .int .i64 x] w fun e w' => e = .returned (.bool false) ∧ w' = w := by
  unfold maxLen at b0 b1
  go_enter Try.func6, Try.ntmps6
  go_wp2
  all_goals (go_ret; exact ⟨rfl, rfl⟩)

/-- Every pick is in the pool. -/
def inPool (zs : List Int) (n : Int) : Bool := zs.all fun x => decide (0 ≤ x) && decide (x < n)

theorem inPool_no {zs : List Int} {n : Int} {k : Nat} (hk : k < zs.length) (h : zs.getD k 0 < 0 ∨ n ≤ zs.getD k 0) : inPool zs n = false := by
  apply Bool.eq_false_iff.mpr
  intro ht
  have := (List.all_eq_true.1 ht) (zs.getD k 0) (by rw [List.getD_eq_getElem?_getD, List.getElem?_eq_getElem hk]; exact List.getElem_mem hk)
  rw [Bool.and_eq_true, decide_eq_true_iff, decide_eq_true_iff] at this
  omega
theorem inPool_yes {zs : List Int} {n : Int} (h : ∀ j, j < zs.length → 0 ≤ zs.getD j 0 ∧ zs.getD j 0 < n) : inPool zs n = true := by
  apply List.all_eq_true.2
  intro x hx
  obtain ⟨j, hj, rfl⟩ := List.getElem_of_mem hx
  have := h j hj
  rw [List.getD_eq_getElem?_getD, List.getElem?_eq_getElem hj] at this
  simpa using this

theorem ret_bool {a b : Bool} (h : a = b) : Ending.returned (.bool a) = .returned (.bool b) := by rw [h]

set_option maxHeartbeats 400000 in
/-- zzPicksInPool. -/
theorem picks_any (a : Option Addr) (len cap : Nat) (zs : List Int) (adr : Nat → Addr) (n : Int) (w : World) (hl : len ≤ maxLen) (hR : RowAt 23 .i64 w a len cap zs adr) :
    Calls Try.prog 7 #[.slice a len cap, .int .i64 n] w fun e w' => e = .returned (.bool (inPool zs n)) ∧ w' = w := by
  unfold maxLen at hl
  obtain ⟨hlen, hidx, hcell⟩ := hR
  have HL : Hid (zs.length = len) := hlen
  have HI : Hid (∀ i : Nat, i < len → ∀ W : World, (Instr.indexAt 23 (.slice a len cap) (.int .i64 (i : Int))).run Try.prog W = .ok (.pointer (some (adr i))) W) := hidx
  have HC : Hid (∀ i : Nat, i < len → w.cell? (adr i) = some (.int .i64 (zs.getD i 0))) := hcell
  clear hlen hidx hcell
  go_enter Try.func7, Try.ntmps7
  go_wp2
  go_loop [5] (fun i => ∃ k : Nat, k ≤ len ∧ i = .int .i64 k ∧ Hid (∀ j, j < k → 0 ≤ zs.getD j 0 ∧ zs.getD j 0 < n)) (fun i => len - (intOf i).toNat)
  case atStart => exact ⟨0, Nat.zero_le _, rfl, fun j hj => absurd hj (Nat.not_lt_zero _)⟩
  case round =>
    obtain ⟨k, hk, rfl, hall⟩ := hrel
    by_cases hlt : k < len
    · have f1 := HI.out k hlt
      have f2 := HC.out k hlt
      obtain ⟨x, hx⟩ : ∃ x, x = zs.getD k 0 := ⟨_, rfl⟩
      rw [← hx] at f2
      have HX : Hid (x = zs.getD k 0) := hx
      clear hx
      by_cases h0 : x < 0
      · go_wp2
        go_ret
        exact ⟨ret_bool (inPool_no (k := k) (by rw [HL.out]; exact hlt) (.inl (by rw [← HX.out]; exact h0))).symm, rfl⟩
      · by_cases h1 : n ≤ x
        · go_wp2
          go_ret
          exact ⟨ret_bool (inPool_no (k := k) (by rw [HL.out]; exact hlt) (.inr (by rw [← HX.out]; exact h1))).symm, rfl⟩
        · go_wp2
          go_round
          case rel =>
            refine ⟨k + 1, by omega, by go_num, fun j hj => ?_⟩
            by_cases e : j = k
            · subst e; rw [← HX.out]; omega
            · exact hall.out j (by omega)
          case measure => simp [intOf]; omega
    · obtain rfl : k = len := by omega
      go_wp2
      go_ret
      exact ⟨ret_bool (inPool_yes (by rw [HL.out]; exact hall.out)).symm, rfl⟩

end Go.Proofs.Qxb6612769a
