/-
  THE WALKS of seat b6609523a, fifth part: the text decodes back, and tells two IDs apart.
-/
import Derived.Test.Qxb6609523aEq
namespace Go.Proofs.Qxb6609523a
open Go.RowKit Go.Lib

/-- A whole row loaded under a guard that says yes. -/
theorem load_row_want {P : Program} {ops : Array Oper} {rest : List Oper} {o : Oper} {a : Act} {w : World} {Q : Exit → Act → World → Prop} (hw : Region.wanted o (yielded ops a.tmps) = true) (ty : TypeId) (x : Operand) (ho : o.op = .load ty x)
    (g : Nat) (hx : a.eval x = .pointer (some ⟨g, 0, none⟩)) (t : TypeId) (cs : Array Value) (fr : Nat × Nat) (d : TypeDesc) (hg : w.heap[g]? = some (.cells cs t fr))
    (hu : P.underlying ty = some d) (hd : (match d with | .struct _ | .array _ _ => true | _ => false) = true) (hi : (P.info? ty).map (·.size) = some cs.size)
    (h : wpList P ops Q rest (a.put o.dst (.agg cs)) w) : wpList P ops Q (o :: rest) a w :=
  BigFrame.wpList_want hw fun _ hK => wp_load_row ty x ho g hx t cs fr d hg hu hd hi (hK _ _ h)

set_option maxHeartbeats 1000000 in
theorem back_walk (xs ys : List Int) (h20 : xs.length = 20) (k20 : ys.length = 20) (hr : ∀ i, i < 20 → 0 ≤ xs.getD i 0 ∧ xs.getD i 0 < 256) (kr : ∀ i, i < 20 → 0 ≤ ys.getD i 0 ∧ ys.getD i 0 < 256) (w : World)
    (b : Bool) (hb : ((hexStr xs).toList == (hexStr ys).toList) = b) (hd : decide (xs = ys) = b) :
    Calls Try.prog 5 #[.agg (cellsId xs), .agg (cellsId ys)] w fun e w' => e = .returned (.bool true) ∧ Below w.heap.size w w' := by
  have HI : Hid ((Try.prog.info? 26).map (·.size) = some (cellsId xs).size) := info26 xs h20
  have HJ : Hid ((Try.prog.info? 26).map (·.size) = some (cellsId ys).size) := info26 ys k20
  have e1 := run_eqId xs ys h20 k20
  have e2 := run_eqId xs xs h20 h20
  rw [hd] at e1
  have HR : Hid (∀ i, i < 20 → 0 ≤ xs.getD i 0 ∧ xs.getD i 0 < 256) := hr
  have KR : Hid (∀ i, i < 20 → 0 ≤ ys.getD i 0 ∧ ys.getD i 0 < 256) := kr
  have H20 : Hid (xs.length = 20) := h20
  have K20 : Hid (ys.length = 20) := k20
  have hold : zeros.size = (cellsId xs).size := by simp [zeros, cellsId, h20]
  have hall : (cellsId xs).all (·.oneCell') = true := by simp [cellsId, Value.oneCell']
  have HO : Hid (zeros.size = (cellsId xs).size) := hold
  have HA : Hid ((cellsId xs).all (·.oneCell') = true) := hall
  clear hr kr h20 k20 hd hold hall
  go_enter Try.func5, Try.ntmps5
  go_wp2_with (first
    | (refine wpList_load_row rfl 26 _ rfl w.heap.size rfl 26 (cellsId xs) (0, 0) _ (heap_alloc2_old w _ _) Try.underlying26 rfl HI.out ?_))
  refine (string_any xs H20.out HR.out _).mono ?_
  rintro e w1 ⟨rfl, hb1⟩
  have HB1 : Hid (Below (w.heap.size + 2) ((w.alloc (.cells (cellsId xs) 26)).alloc (.cells (cellsId ys) 26)) w1) := (show Below _ _ _ by simpa using hb1)
  clear hb1
  have b1 : Hid (w1.heap[w.heap.size]? = some (.cells (cellsId xs) 26 (0, 0))) := by rw [HB1.out.block _ (by omega)]; exact heap_alloc2_old w _ _
  have c1 : Hid (w1.heap[w.heap.size + 1]? = some (.cells (cellsId ys) 26 (0, 0))) := by rw [HB1.out.block _ (by omega)]; exact heap_alloc2_new w _ _
  have z1 : Hid (w.heap.size + 2 ≤ w1.heap.size) := (show w.heap.size + 2 ≤ w1.heap.size by have := HB1.out.size; simpa using this)
  go_wp2_with (first
    | (refine wpList_load_row rfl 26 _ rfl (w.heap.size + 1) rfl 26 (cellsId ys) (0, 0) _ c1.out Try.underlying26 rfl HJ.out ?_))
  refine (string_any ys K20.out KR.out _).mono ?_
  rintro e w2 ⟨rfl, hb2⟩
  have HB2 : Hid (Below w1.heap.size w1 w2) := hb2
  clear hb2
  have b2 : Hid (w2.heap[w.heap.size]? = some (.cells (cellsId xs) 26 (0, 0))) := by rw [HB2.out.block _ (by have := z1.out; omega)]; exact b1.out
  have c2 : Hid (w2.heap[w.heap.size + 1]? = some (.cells (cellsId ys) 26 (0, 0))) := by rw [HB2.out.block _ (by have := z1.out; omega)]; exact c1.out
  have z2 : Hid (w.heap.size + 2 ≤ w2.heap.size) := (show w.heap.size + 2 ≤ w2.heap.size by have := HB2.out.size; have := z1.out; omega)
  go_wp2_with fail
  refine (decode_walk xs H20.out HR.out _).mono ?_
  rintro e w3 ⟨rfl, hb3⟩
  have HB3 : Hid (Below w2.heap.size w2 w3) := hb3
  clear hb3
  have b3 : Hid (w3.heap[w.heap.size]? = some (.cells (cellsId xs) 26 (0, 0))) := by rw [HB3.out.block _ (by have := z2.out; omega)]; exact b2.out
  have c3 : Hid (w3.heap[w.heap.size + 1]? = some (.cells (cellsId ys) 26 (0, 0))) := by rw [HB3.out.block _ (by have := z2.out; omega)]; exact c2.out
  have z3 : Hid (w.heap.size + 2 ≤ w3.heap.size) := (show w.heap.size + 2 ≤ w3.heap.size by have := HB3.out.size; have := z2.out; omega)
  have b4 : Hid (∀ o, ((w3.alloc o).setRow w3.heap.size (cellsId xs)).heap[w.heap.size]? = some (.cells (cellsId xs) 26 (0, 0))) := fun o => by
    have := z3.out
    rw [setRow_other _ _ _ _ (by omega), Below.heap_alloc w3 _ _ (by omega)]
    exact b3.out
  have c4 : Hid (∀ o, ((w3.alloc o).setRow w3.heap.size (cellsId xs)).heap[w.heap.size + 1]? = some (.cells (cellsId ys) 26 (0, 0))) := fun o => by
    have := z3.out
    rw [setRow_other _ _ _ _ (by omega), Below.heap_alloc w3 _ _ (by omega)]
    exact c3.out
  go_wp2_with (first
    | (refine wpList_store_row rfl 26 _ _ rfl w3.heap.size (cellsId xs) rfl rfl 26 zeros (heap_alloc_new w3 _) HI.out HO.out HA.out ?_)
    | (refine load_row_want rfl 26 _ rfl w3.heap.size rfl 26 (cellsId xs) (0, 0) _ (setRow_heap _ _ zeros _ 26 _ (heap_alloc_new w3 _)) Try.underlying26 rfl HI.out ?_)
    | (refine load_row_want rfl 26 _ rfl w.heap.size rfl 26 (cellsId xs) (0, 0) _ (b4.out _) Try.underlying26 rfl HI.out ?_)
    | (refine wpList_load_row rfl 26 _ rfl w.heap.size rfl 26 (cellsId xs) (0, 0) _ (b4.out _) Try.underlying26 rfl HI.out ?_)
    | (refine wpList_load_row rfl 26 _ rfl (w.heap.size + 1) rfl 26 (cellsId ys) (0, 0) _ (c4.out _) Try.underlying26 rfl HJ.out ?_))
  go_ret
  have q1 : Below w.heap.size w w1 := (((Below.refl _ _).alloc (Nat.le_refl _) _).alloc (by simp) _).trans (HB1.out.mono (by omega))
  have q3 : Below w.heap.size w w3 := (q1.trans (HB2.out.mono (by have := z1.out; omega))).trans (HB3.out.mono (by have := z2.out; omega))
  exact ⟨by simp, below_setRow (q3.alloc (by have := z3.out; omega) _) (by have := z3.out; omega) _⟩
end Go.Proofs.Qxb6609523a
