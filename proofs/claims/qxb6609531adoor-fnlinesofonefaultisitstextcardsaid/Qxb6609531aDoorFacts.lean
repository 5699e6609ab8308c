/-
  CLOSED FACTS of seat b6609531aD: what reflectlite's entries answer at this program's types. (29: *Error, 34: List, 38: error, 40: *List, 56: reflectlite's rtype.)
-/
import Derived.Test.Qxb6609531aDoorRows
import Derived.WalkKit
namespace Go.Proofs.Qxb6609531aDoor

theorem valueOf40 (a : Addr) (w : World) : (callFunc 12 #[.iface 40 (.pointer (some a))]).run Tryd.prog w = .ok (.value (.agg #[.pointer (some ⟨2, 40, none⟩), .pointer (some ⟨w.heap.size, 0, none⟩), .int .u64 150])) (w.alloc (.cells #[.pointer (some a)] 40)) := by kernel_rfl
theorem valueOf34 (a : Option Addr) (n c : Nat) (w : World) : (callFunc 12 #[.iface 34 (.slice a n c)]).run Tryd.prog w = .ok (.value (.agg #[.pointer (some ⟨2, 34, none⟩), .pointer (some ⟨w.heap.size, 0, none⟩), .int .u64 151])) (w.alloc (.cells #[.slice a n c] 34)) := by kernel_rfl
theorem typeOf29 (v : Value) (w : World) : (callFunc 16 #[.iface 29 v]).run Tryd.prog w = .ok (.value (.iface 56 (.agg #[.pointer (some ⟨2, 29, none⟩)]))) w := by kernel_rfl
theorem typeOf34 (v : Value) (w : World) : (callFunc 16 #[.iface 34 v]).run Tryd.prog w = .ok (.value (.iface 56 (.agg #[.pointer (some ⟨2, 34, none⟩)]))) w := by kernel_rfl
theorem type40 (a : Addr) (w : World) : (callFunc 13 #[.agg #[.pointer (some ⟨2, 40, none⟩), .pointer (some a), .int .u64 150]]).run Tryd.prog w = .ok (.value (.iface 56 (.agg #[.pointer (some ⟨2, 40, none⟩)]))) w := by kernel_rfl
theorem kind40 (w : World) : (callFunc 33 #[.pointer (some ⟨2, 40, none⟩)]).run Tryd.prog w = .ok (.value (.int .u8 22)) w := by kernel_rfl
theorem kind34 (w : World) : (callFunc 33 #[.pointer (some ⟨2, 34, none⟩)]).run Tryd.prog w = .ok (.value (.int .u8 23)) w := by kernel_rfl
theorem elem40 (w : World) : (callFunc 53 #[.agg #[.pointer (some ⟨2, 40, none⟩)]]).run Tryd.prog w = .ok (.value (.iface 56 (.agg #[.pointer (some ⟨2, 34, none⟩)]))) w := by kernel_rfl
theorem impl34 (w : World) : (callFunc 54 #[.agg #[.pointer (some ⟨2, 34, none⟩)], .iface 56 (.agg #[.pointer (some ⟨2, 38, none⟩)])]).run Tryd.prog w = .ok (.value (.bool true)) w := by kernel_rfl
theorem assign29 (w : World) : (callFunc 51 #[.agg #[.pointer (some ⟨2, 29, none⟩)], .iface 56 (.agg #[.pointer (some ⟨2, 34, none⟩)])]).run Tryd.prog w = .ok (.value (.bool false)) w := by kernel_rfl
theorem assign34 (w : World) : (callFunc 51 #[.agg #[.pointer (some ⟨2, 34, none⟩)], .iface 56 (.agg #[.pointer (some ⟨2, 34, none⟩)])]).run Tryd.prog w = .ok (.value (.bool true)) w := by kernel_rfl

end Go.Proofs.Qxb6609531aDoor
