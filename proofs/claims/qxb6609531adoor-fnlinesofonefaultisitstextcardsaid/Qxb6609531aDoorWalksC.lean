/-
  THE WALKS of seat b6609531aD, third part: errors.As.
-/
import Derived.Test.Qxb6609531aDoorFacts
import Derived.Test.Qxb6609531aDoorFactsB
import Derived.Test.Qxb6609531aDoorWalksA
import Derived.Laws.Pointers
import Derived.Stop.Asserts
namespace Go.Proofs.Qxb6609531aDoor
open Go.RowKit

theorem assert61 (v : Value) (w : World) : (Instr.typeAssert (.iface 29 v) 38 61 true).run Tryd.prog w = .ok (.tuple #[.nilIface, .bool false]) w := run_typeAssert_lacksB Tryd.underlying61 (by kernel_rfl) (by kernel_rfl) v 38 w
theorem assert64 (v : Value) (w : World) : (Instr.typeAssert (.iface 29 v) 38 64 true).run Tryd.prog w = .ok (.tuple #[.nilIface, .bool false]) w := run_typeAssert_lacksB Tryd.underlying64 (by kernel_rfl) (by kernel_rfl) v 38 w
theorem assert66 (v : Value) (w : World) : (Instr.typeAssert (.iface 29 v) 38 66 true).run Tryd.prog w = .ok (.tuple #[.nilIface, .bool false]) w := run_typeAssert_lacksB Tryd.underlying66 (by kernel_rfl) (by kernel_rfl) v 38 w

set_option maxHeartbeats 1000000 in
/-- errors.as at a *Error: no List is in it. -/
theorem as_no (pe : Addr) (tv : Value) (x1 x2 x3 : Value) (w : World) :
    Calls Tryd.prog 15 #[.iface 29 (.pointer (some pe)), tv, .agg #[x1, x2, x3], .iface 56 (.agg #[.pointer (some ⟨2, 34, none⟩)])] w fun e w' => e = .returned (.bool false) ∧ Below w.heap.size w w' := by
  have f1 := typeOf29
  have f2 := mAssign
  have f3 := assign29
  have f4 := assert61
  have f5 := assert64
  have f6 := assert66
  go_enter Tryd.func15, Tryd.ntmps15
  go_wp2
  refine wp_loop_rounds 1 ?_
  rw [rounds_succ]
  go_wp2
  go_ret
  exact ⟨rfl, (Below.refl _ _).alloc (Nat.le_refl _) _⟩

set_option maxHeartbeats 1000000 in
/-- errors.as at a List: it is laid in the variable. -/
theorem as_yes (s : Option Addr) (n c : Nat) (a3 b : Addr) (old tv : Value) (w : World) (hb : w.cell? b = some (.pointer (some a3))) (ha : w.cell? a3 = some old) (hf : w.frozen? a3 = false) (hl : b.block < w.heap.size) (hl3 : a3.block < w.heap.size) :
    Calls Tryd.prog 15 #[.iface 34 (.slice s n c), tv, .agg #[.pointer (some ⟨2, 40, none⟩), .pointer (some b), .int .u64 150], .iface 56 (.agg #[.pointer (some ⟨2, 34, none⟩)])] w fun e w' =>
      e = .returned (.bool true) ∧ w' = (((w.alloc (.cells #[.pointer (some ⟨2, 40, none⟩), .pointer (some b), .int .u64 150] 45)).alloc (.cells #[.slice s n c] 34)).setCell a3 (.slice s n c)) := by
  have f1 := typeOf34
  have f2 := mAssign
  have f3 := assign34
  have f4 := valueOf34
  have g1 : ∀ o, (w.alloc o).cell? b = some (.pointer (some a3)) := fun o => by rw [World.cell?_alloc_lt _ _ _ hl]; exact hb
  have f5 := fun o => valElem40 b a3 (w.alloc o) (g1 o)
  have f6 := set34 a3 ⟨w.heap.size + 1, 0, none⟩ s n c old ((w.alloc (.cells #[.pointer (some ⟨2, 40, none⟩), .pointer (some b), .int .u64 150] 45)).alloc (.cells #[.slice s n c] 34)) (by rw [World.cell?_alloc2_new]; rfl) (by rw [World.cell?_alloc_lt _ _ _ (by simp; omega), World.cell?_alloc_lt _ _ _ hl3]; exact ha)
    ((((Below.refl w.heap.size w).alloc (Nat.le_refl _) _).alloc (by simp) _).frozen hl3 |>.trans hf)
  clear hb ha hf
  go_enter Tryd.func15, Tryd.ntmps15
  go_wp2
  refine wp_loop_rounds 1 ?_
  rw [rounds_succ]
  go_wp2
  go_ret
  exact ⟨rfl, rfl⟩

end Go.Proofs.Qxb6609531aDoor
