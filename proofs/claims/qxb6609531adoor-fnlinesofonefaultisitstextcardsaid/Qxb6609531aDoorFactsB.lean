/-
  FACTS of seat b6609531aD, second part: rtype's methods as the program's tables have them; the entries of reflectlite.Value that read or write memory.
-/
import Derived.Test.Qxb6609531aDoorRows
import Derived.WalkKit
import Derived.Lib.ReflectliteSlice
namespace Go.Proofs.Qxb6609531aDoor
open Go.Extern Go.Extern.Rtype Go.Lib

theorem mKind (a : Addr) (w : World) : (method 207 56 (.agg #[.pointer (some a)]) "Kind").run Tryd.prog w = .ok (33, .pointer (some a)) w := by kernel_rfl
theorem mElem (a : Addr) (w : World) : (method 207 56 (.agg #[.pointer (some a)]) "Elem").run Tryd.prog w = .ok (53, .agg #[.pointer (some a)]) w := by kernel_rfl
theorem mImpl (a : Addr) (w : World) : (method 207 56 (.agg #[.pointer (some a)]) "Implements").run Tryd.prog w = .ok (54, .agg #[.pointer (some a)]) w := by kernel_rfl
theorem mAssign (a : Addr) (w : World) : (method 207 56 (.agg #[.pointer (some a)]) "AssignableTo").run Tryd.prog w = .ok (51, .agg #[.pointer (some a)]) w := by kernel_rfl

theorem e14 (v : Value) (w : World) : (callFunc 14 #[v]).run Tryd.prog w = (ReflectliteValue.method (ReflectliteValue.valueError "reflectlite.Value.IsNil" 0) ReflectliteValue.isNil #[v] >>= fun x => pure (Next.value x)).run Tryd.prog w := by kernel_rfl
theorem e17 (v : Value) (w : World) : (callFunc 17 #[v]).run Tryd.prog w = (ReflectliteValue.method (ReflectliteValue.valueError "reflectlite.Value.Elem" 0) ReflectliteValue.elem #[v] >>= fun x => pure (Next.value x)).run Tryd.prog w := by kernel_rfl
theorem e18 (v x : Value) (w : World) : (callFunc 18 #[v, x]).run Tryd.prog w = (ReflectliteValue.set #[v, x] >>= fun x => pure (Next.value x)).run Tryd.prog w := by kernel_rfl

theorem handle_eq (t : TypeId) : Value.pointer (some ⟨2, t, none⟩) = typeHandle Tryd.prog t := by kernel_rfl
theorem parts150 (h : Value) (a : Addr) : ReflectliteValue.partsAny (.agg #[h, .pointer (some a), .int .u64 150]) = (do pure (some (← ofHandle h, a, 150))) := rfl
theorem parts407 (h : Value) (a : Addr) : ReflectliteValue.partsAny (.agg #[h, .pointer (some a), .int .u64 407]) = (do pure (some (← ofHandle h, a, 407))) := rfl
theorem packed40 : Tryd.prog.packed 40 = false := by kernel_rfl
theorem packed34 : Tryd.prog.packed 34 = false := by kernel_rfl

theorem run_parts40 (a : Addr) (w : World) : (ReflectliteValue.parts (.agg #[.pointer (some ⟨2, 40, none⟩), .pointer (some a), .int .u64 150])).run Tryd.prog w = .ok (some (40, a, 150)) w := by
  rw [handle_eq]
  unfold ReflectliteValue.parts
  rw [parts150]
  simp [ofHandle, handleType, typeHandle, rl_noPack _ 40 packed40, Result.andThen]
theorem run_parts34 (a : Addr) (w : World) : (ReflectliteValue.parts (.agg #[.pointer (some ⟨2, 34, none⟩), .pointer (some a), .int .u64 407])).run Tryd.prog w = .ok (some (34, a, 407)) w := by
  rw [handle_eq]
  unfold ReflectliteValue.parts
  rw [parts407]
  simp [ofHandle, handleType, typeHandle, rl_noPack _ 34 packed34, Result.andThen]
theorem run_parts34' (a : Addr) (w : World) : (ReflectliteValue.parts (.agg #[.pointer (some ⟨2, 34, none⟩), .pointer (some a), .int .u64 151])).run Tryd.prog w = .ok (some (34, a, 151)) w := by
  rw [handle_eq]
  exact run_parts 34 a packed34 w

theorem kinds34 (w : World) : (kind 34).run Tryd.prog w = .ok 23 w := by kernel_rfl
theorem elem40? (w : World) : (elem? 40).run Tryd.prog w = .ok (some 34) w := by kernel_rfl
theorem direct34 (w : World) : (directlyAssignable 34 34).run Tryd.prog w = .ok true w := by kernel_rfl

/-- (reflectlite.Value).IsNil at the Value of a pointer that is not nil. -/
theorem isNil40 (a p : Addr) (w : World) (hc : w.cell? a = some (.pointer (some p))) : (callFunc 14 #[.agg #[.pointer (some ⟨2, 40, none⟩), .pointer (some a), .int .u64 150]]).run Tryd.prog w = .ok (.value (.bool false)) w := by
  rw [e14, rl_method]
  simp only [Sem.run_bind, run_parts40, Result.andThen]
  simp [ReflectliteValue.isNil, loadVar, isAgg, underlying, Tryd.underlying40, hc, Result.andThen]

/-- (reflectlite.Value).Elem there. -/
theorem valElem40 (a p : Addr) (w : World) (hc : w.cell? a = some (.pointer (some p))) : (callFunc 17 #[.agg #[.pointer (some ⟨2, 40, none⟩), .pointer (some a), .int .u64 150]]).run Tryd.prog w =
    .ok (.value (.agg #[.pointer (some ⟨2, 34, none⟩), .pointer (some p), .int .u64 407])) w := by
  rw [e17, rl_method, handle_eq 34]
  simp only [Sem.run_bind, run_parts40, Result.andThen]
  simp [ReflectliteValue.elem, loadVar, isAgg, underlying, Tryd.underlying40, hc, elem40?, ReflectliteValue.mk, handle, kinds34, ReflectliteValue.flagAddr, ReflectliteValue.flagIndir, Result.andThen]

theorem set_eq (v x : Value) : ∃ (E1 : Sem Value) (E2 : TypeId → Addr → TypeId → Addr → Sem Value) (E3 : TypeId → Addr → TypeId → Value → Sem Value), ReflectliteValue.set #[v, x] =
    (ReflectliteValue.parts v >>= fun p => ReflectliteValue.parts x >>= fun q =>
      match (p, q) with
      | (some (dst, a, fl), some (src, b, _)) =>
        if (fl / ReflectliteValue.flagAddr % 2 == 0) = true then E2 dst a src b
        else loadVar src b >>= fun val => directlyAssignable dst src >>= fun y => if y = true then (storeVar dst a val >>= fun _ => pure (.tuple #[])) else E3 dst a src val
      | _ => E1) := ⟨_, _, _, rfl⟩

/-- (reflectlite.Value).Set of a List variable. -/
theorem set34 (a b : Addr) (s : Option Addr) (n c : Nat) (old : Value) (w : World) (hb : w.cell? b = some (.slice s n c)) (ha : w.cell? a = some old) (hf : w.frozen? a = false) :
    (callFunc 18 #[.agg #[.pointer (some ⟨2, 34, none⟩), .pointer (some a), .int .u64 407], .agg #[.pointer (some ⟨2, 34, none⟩), .pointer (some b), .int .u64 151]]).run Tryd.prog w = .ok (.value (.tuple #[])) (w.setCell a (.slice s n c)) := by
  obtain ⟨E1, E2, E3, hset⟩ := set_eq (.agg #[.pointer (some ⟨2, 34, none⟩), .pointer (some a), .int .u64 407]) (.agg #[.pointer (some ⟨2, 34, none⟩), .pointer (some b), .int .u64 151])
  rw [e18, hset]
  simp only [Sem.run_bind, run_parts34, run_parts34', Result.andThen]
  simp [ReflectliteValue.flagAddr, loadVar, isAgg, underlying, Tryd.underlying34, hb, direct34, storeVar, Value.cells, storeCells, ha, hf, Result.andThen, go_sem]

end Go.Proofs.Qxb6609531aDoor
