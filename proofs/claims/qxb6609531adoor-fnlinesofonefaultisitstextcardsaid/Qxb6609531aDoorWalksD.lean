/-
  THE WALKS of seat b6609531aD, fourth part: errors.As itself, at a *Error and at a List.
-/
import Derived.Test.Qxb6609531aDoorWalksC
namespace Go.Proofs.Qxb6609531aDoor
open Go.RowKit

set_option maxHeartbeats 1000000 in
/-- errors.As(err, &faults), err a *Error: false. -/
theorem As_no (pe a3 : Addr) (w : World) (hE : w.cell? ⟨0, 0, none⟩ = some (.iface 56 (.agg #[.pointer (some ⟨2, 38, none⟩)]))) :
    Calls Tryd.prog 10 #[.iface 29 (.pointer (some pe)), .iface 40 (.pointer (some a3))] w fun e w' => e = .returned (.bool false) ∧ Below w.heap.size w w' := by
  have h0 : 0 < w.heap.size := block_lt_of_cell hE
  have f1 := valueOf40
  have f2 := type40
  have f3 := mKind
  have f4 := kind40
  have f5 := fun o => isNil40 ⟨w.heap.size, 0, none⟩ a3 ((w.alloc (.cells #[.pointer (some a3)] 40)).alloc o) (by rw [World.cell?_alloc2_first]; rfl)
  have f6 := mElem
  have f7 := elem40
  have f8 := kind34
  have f9 := mImpl
  have f10 := impl34
  have f11 : ∀ o1 o2, ((w.alloc o1).alloc o2).cell? ⟨0, 0, none⟩ = some (.iface 56 (.agg #[.pointer (some ⟨2, 38, none⟩)])) := fun o1 o2 => by
    rw [World.cell?_alloc_lt _ _ _ (by simp), World.cell?_alloc_lt _ _ _ h0]; exact hE
  clear hE
  go_enter Tryd.func10, Tryd.ntmps10
  go_wp2_with (go_at_call 15; refine (as_no _ _ _ _ _ _).mono ?_; rintro e w' ⟨rfl, hb⟩)
  go_ret
  exact ⟨rfl, (((Below.refl _ _).alloc (Nat.le_refl _) _).alloc (by simp) _).trans (hb.mono (by simp; omega))⟩

set_option maxHeartbeats 1000000 in
/-- errors.As(err, &faults), err a List: true; it is laid in the variable. -/
theorem As_yes (s : Option Addr) (n c : Nat) (a3 : Addr) (old : Value) (w : World) (hE : w.cell? ⟨0, 0, none⟩ = some (.iface 56 (.agg #[.pointer (some ⟨2, 38, none⟩)])))
    (ha : w.cell? a3 = some old) (hf : w.frozen? a3 = false) :
    Calls Tryd.prog 10 #[.iface 34 (.slice s n c), .iface 40 (.pointer (some a3))] w fun e w' => e = .returned (.bool true) ∧ ∃ W, Below w.heap.size w W ∧ w' = W.setCell a3 (.slice s n c) := by
  have h0 : 0 < w.heap.size := block_lt_of_cell hE
  have h3 : a3.block < w.heap.size := block_lt_of_cell ha
  have f1 := valueOf40
  have f2 := type40
  have f3 := mKind
  have f4 := kind40
  have f5 := fun o => isNil40 ⟨w.heap.size, 0, none⟩ a3 ((w.alloc (.cells #[.pointer (some a3)] 40)).alloc o) (by rw [World.cell?_alloc2_first]; rfl)
  have f6 := mElem
  have f7 := elem40
  have f8 := kind34
  have f9 := mImpl
  have f10 := impl34
  have f11 : ∀ o1 o2, ((w.alloc o1).alloc o2).cell? ⟨0, 0, none⟩ = some (.iface 56 (.agg #[.pointer (some ⟨2, 38, none⟩)])) := fun o1 o2 => by
    rw [World.cell?_alloc_lt _ _ _ (by simp), World.cell?_alloc_lt _ _ _ h0]; exact hE
  have A1 : Hid (∀ o1 o2, ((w.alloc o1).alloc o2).cell? a3 = some old) := fun o1 o2 => by
    rw [World.cell?_alloc_lt _ _ _ (by simp; omega), World.cell?_alloc_lt _ _ _ h3]; exact ha
  have A2 : Hid (∀ o1 o2, ((w.alloc o1).alloc o2).frozen? a3 = false) := fun o1 o2 =>
    ((((Below.refl w.heap.size w).alloc (Nat.le_refl _) o1).alloc (by simp) o2).frozen h3).trans hf
  have A3 : Hid (∀ o2, ((w.alloc (.cells #[.pointer (some a3)] 40)).alloc o2).cell? ⟨w.heap.size, 0, none⟩ = some (.pointer (some a3))) := fun o2 => by rw [World.cell?_alloc2_first]; rfl
  have S1 : Hid (∀ o1 o2, (⟨w.heap.size, 0, none⟩ : Addr).block < ((w.alloc o1).alloc o2).heap.size) := fun o1 o2 => by simp; omega
  have S2 : Hid (∀ o1 o2, a3.block < ((w.alloc o1).alloc o2).heap.size) := fun o1 o2 => by simp; omega
  clear hE ha hf
  go_enter Tryd.func10, Tryd.ntmps10
  go_wp2_with (go_at_call 15; refine (as_yes s n c a3 ⟨w.heap.size, 0, none⟩ old _ _ (A3.out _) (A1.out _ _) (A2.out _ _) (S1.out _ _) (S2.out _ _)).mono ?_; rintro e w' ⟨rfl, rfl⟩)
  go_ret
  exact ⟨rfl, _, ((((Below.refl _ _).alloc (Nat.le_refl _) _).alloc (by simp) _).alloc (by simp; omega) _).alloc (by simp; omega) _, rfl⟩

end Go.Proofs.Qxb6609531aDoor
