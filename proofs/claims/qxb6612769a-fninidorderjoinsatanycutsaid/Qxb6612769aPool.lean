/-
  ZZinIDOrder of seat b6612769a, first part: the pool.
-/
import Derived.Test.Qxb6612769aOrderW
import Derived.Test.Qxb6612769aWalksD
import Derived.Deep.OwnRows
namespace Go.Proofs.Qxb6612769a
open Go.RowKit
open Go.ChangeMaps (setBlock)

/-- The pool's row when k transactions have been made: B is the first one's block. -/
def poolCells (B n k : Nat) : Array Value := ((List.range n).map fun j => if j < k then ptr B j else .pointer none).toArray

theorem info52 : (Try.prog.info? 52).map (fun i => (i.zero, i.size, i.bytes)) = some (some (.pointer none), 1, 8) := by kernel_rfl
theorem make50 (n : Nat) (h : n ≤ 16384) (w : World) : (Instr.makeSlice 50 (.int .i64 (n : Int)) (.int .i64 (n : Int))).run Try.prog w = .ok (.slice (some ⟨w.heap.size, 0, none⟩) n n) (w.alloc (.cells (madeCells #[.pointer none] n) 52)) :=
  run_make_row' (P := Try.prog) 50 52 (.pointer none) 8 Try.underlying50 info52 rfl .i64 .i64 n (by omega) (by omega) w

theorem made_at (z : Value) (n i : Nat) : (madeCells #[z] n)[i]? = if i < n then some z else none := by
  by_cases h : i < n
  · have e : i % 1 = 0 := Nat.mod_one i
    simp [madeCells, h, e]
  · simp [madeCells, h]

theorem poolCells_at (B n k i : Nat) : (poolCells B n k)[i]? = if i < n then some (if i < k then ptr B i else .pointer none) else none := by
  by_cases h : i < n
  · simp [poolCells, h]
  · simp [poolCells, h]

theorem poolCells_zero (B n : Nat) : madeCells #[Value.pointer none] n = poolCells B n 0 := by
  apply Array.ext_getElem?
  intro i
  rw [made_at, poolCells_at]
  simp

theorem poolCells_step (B n k : Nat) (h : k < n) : (poolCells B n k).setIfInBounds k (ptr B k) = poolCells B n (k + 1) := by
  apply Array.ext_getElem?
  intro i
  rw [Array.getElem?_setIfInBounds, poolCells_at, poolCells_at]
  have hs : (poolCells B n k).size = n := by simp [poolCells]
  by_cases e : k = i
  · subst e; simp [hs, h]
  · rw [if_neg e]
    by_cases h1 : i < k
    · simp [h1, show i < k + 1 by omega]
    · simp [h1, show ¬ i < k + 1 by omega]

/-- A new transaction's cells. -/
abbrev txnCells (x : Int) : Array Value := #[.pointer none, .pointer none, .int .u8 0, .bool false, .bool false, .int .u64 0, .pointer none, .slice none 0 0, .int .u64 x, .int .u32 0, .int .u32 0, .bool false, .bool false, .bool false, .chan none, .pointer none, .slice none 0 0,
  .pointer none, .pointer none, .pointer none, .pointer none, .pointer none, .pointer none, .pointer none, .pointer none, .int .i64 0, .int .i64 0, .int .u64 0, .int .u64 0, .int .i64 0, .int .i64 0, .pointer none, .int .u64 0, .pointer none, .int .i64 0, .pointer none, .bool false]

/-- What holds when k transactions have been made: P: the pool's block; the map's: P + 1; the transactions': from P + 2 on. -/
structure PoolAt (ids : List Int) (n k P : Nat) (w wr : World) : Prop where
  below : Below P w wr
  size : wr.heap.size = P + 2 + k
  pool : wr.heap[P]? = some (.cells (poolCells (P + 2) n k) 52 (0, 0))
  map : wr.heap[P + 1]? = some (.map (ptrEnts (P + 2) k) k)
  txns : Txns ids k (P + 2) wr

theorem PoolAt.start (ids : List Int) (n : Nat) (w : World) : PoolAt ids n 0 w.heap.size w ((w.alloc (.cells (madeCells #[.pointer none] n) 52)).alloc (.map #[] 0)) where
  below := ((Below.refl _ _).alloc (Nat.le_refl _) _).alloc (by simp) _
  size := by simp
  pool := by rw [poolCells_zero (w.heap.size + 2) n]; exact heap_alloc2_old w _ _
  map := heap_alloc2_new w _ _
  txns := fun j hj => absurd hj (Nat.not_lt_zero _)

/-- The world when the next transaction is made and laid in the pool. -/
def stepW (wr : World) (P k : Nat) (x : Int) : World := (wr.setCell ⟨P, k, none⟩ (.pointer (some ⟨wr.heap.size, 0, none⟩))).alloc (.cells (txnCells x) 75)

theorem PoolAt.stepHeap {ids : List Int} {n k P : Nat} {w wr : World} (h : PoolAt ids n k P w wr) (hk : k < n) {x : Int} (hx : x = idAt ids k) :
    (stepW wr P k x).heap.size = P + 2 + (k + 1) ∧ (stepW wr P k x).heap[P]? = some (.cells (poolCells (P + 2) n (k + 1)) 52 (0, 0)) ∧ (stepW wr P k x).heap[P + 1]? = some (.map (ptrEnts (P + 2) k) k) ∧
    Txns ids (k + 1) (P + 2) (stepW wr P k x) ∧ Below P w (stepW wr P k x) := by
  have hz := h.size
  have hs : (wr.setCell ⟨P, k, none⟩ (.pointer (some ⟨wr.heap.size, 0, none⟩))).heap.size = P + 2 + k := by simp [hz]
  have hold : ∀ b, b < P + 2 + k → b ≠ P → (stepW wr P k x).heap[b]? = wr.heap[b]? := fun b hb hne => by
    unfold stepW
    rw [Below.heap_alloc _ _ _ (by rw [hs]; exact hb), heap_setCell_other _ _ _ _ (by exact hne)]
  refine ⟨by unfold stepW; simp [hz]; omega, ?_, ?_, ?_, ?_⟩
  · unfold stepW
    rw [Below.heap_alloc _ _ _ (by rw [hs]; omega), heap_setCell_same _ _ _ _ _ _ h.pool, ← poolCells_step _ _ _ hk]
    unfold ptr
    rw [hz]
  · rw [hold _ (by omega) (by omega)]; exact h.map
  · intro j hj
    by_cases e : j = k
    · subst e
      refine ⟨txnCells x, ?_, by rw [hx]; rfl⟩
      have := heap_alloc_new (wr.setCell ⟨P, j, none⟩ (.pointer (some ⟨wr.heap.size, 0, none⟩))) (.cells (txnCells x) 75)
      rw [hs] at this
      exact this
    · rw [hold _ (by omega) (by omega)]
      exact h.txns j (by omega)
  · unfold stepW
    exact (h.below.setCell (Nat.le_refl _) _).alloc (by rw [hs]; omega) _

theorem PoolAt.put {ids : List Int} {n k P : Nat} {w wr : World} (h : PoolAt ids n k P w wr) (hk : k < n) {x : Int} (hx : x = idAt ids k) :
    (Instr.mapUpdate 51 (.map (some (P + 1))) (.pointer (some ⟨wr.heap.size, 0, none⟩)) (.int .i64 (k : Int))).run Try.prog (stepW wr P k x) = .ok () (setBlock (stepW wr P k x) (P + 1) (.map (ptrEnts (P + 2) (k + 1)) (k + 1))) := by
  obtain ⟨_, _, h3, h4, _⟩ := h.stepHeap hk hx
  have := put_ptr (B := P + 2) h3 (fun j hj => by obtain ⟨c, hc, _⟩ := h4 j hj; exact ⟨c, hc⟩)
  unfold ptr at this
  rw [h.size]
  exact this

theorem PoolAt.step {ids : List Int} {n k P : Nat} {w wr : World} (h : PoolAt ids n k P w wr) (hk : k < n) {x : Int} (hx : x = idAt ids k) :
    PoolAt ids n (k + 1) P w (setBlock (stepW wr P k x) (P + 1) (.map (ptrEnts (P + 2) (k + 1)) (k + 1))) := by
  obtain ⟨h1, h2, h3, h4, h5⟩ := h.stepHeap hk hx
  exact ⟨below_setBlock h5 (by omega) _, by rw [size_setBlock]; exact h1, by rw [heap_setBlock_other (by omega)]; exact h2, heap_setBlock_same h3, h4.of_same fun j hj => heap_setBlock_other (by omega)⟩

theorem PoolAt.cell {ids : List Int} {n k P : Nat} {w wr : World} (h : PoolAt ids n k P w wr) {i : Nat} (hi : i < n) : wr.cell? ⟨P, i, none⟩ = some (if i < k then ptr (P + 2) i else .pointer none) := by
  rw [cell_of_row wr P i _ 52 _ h.pool, poolCells_at, if_pos hi]

/-! ### The row of picks -/
/-- The row bs when k picks are laid. -/
def bsCells (B : Nat) (ps : List Nat) (k : Nat) : Array Value := ((List.range ps.length).map fun i => if i < k then ptr B (ps.getD i 0) else .pointer none).toArray

theorem bsCells_at (B : Nat) (ps : List Nat) (k i : Nat) : (bsCells B ps k)[i]? = if i < ps.length then some (if i < k then ptr B (ps.getD i 0) else .pointer none) else none := by
  by_cases h : i < ps.length
  · simp only [bsCells, List.getElem?_toArray, List.getElem?_map, List.getElem?_range h, Option.map_some, if_pos h]
  · simp [bsCells, h]

theorem bsCells_zero (B : Nat) (ps : List Nat) : madeCells #[Value.pointer none] ps.length = bsCells B ps 0 := by
  apply Array.ext_getElem?
  intro i
  rw [made_at, bsCells_at]
  simp

theorem bsCells_step (B : Nat) (ps : List Nat) (k : Nat) (h : k < ps.length) : (bsCells B ps k).setIfInBounds k (ptr B (ps.getD k 0)) = bsCells B ps (k + 1) := by
  apply Array.ext_getElem?
  intro i
  rw [Array.getElem?_setIfInBounds, bsCells_at, bsCells_at]
  have hs : (bsCells B ps k).size = ps.length := by simp [bsCells]
  by_cases e : k = i
  · subst e; rw [if_pos rfl, if_pos (by rw [hs]; exact h), if_pos h, if_pos (Nat.lt_succ_self k)]
  · rw [if_neg e]
    by_cases h1 : i < k
    · rw [if_pos h1, if_pos (show i < k + 1 by omega)]
    · rw [if_neg h1, if_neg (show ¬ i < k + 1 by omega)]

/-- What holds when k picks are laid in bs; Q: its block. -/
structure BsAt (ids : List Int) (n : Nat) (ps : List Nat) (k P : Nat) (w wr : World) : Prop where
  below : Below P w wr
  size : wr.heap.size = P + 2 + n + 1
  pool : wr.heap[P]? = some (.cells (poolCells (P + 2) n n) 52 (0, 0))
  map : wr.heap[P + 1]? = some (.map (ptrEnts (P + 2) n) n)
  txns : Txns ids n (P + 2) wr
  bs : wr.heap[P + 2 + n]? = some (.cells (bsCells (P + 2) ps k) 52 (0, 0))

theorem BsAt.start {ids : List Int} {n P : Nat} {ps : List Nat} {w wr : World} (h : PoolAt ids n n P w wr) : BsAt ids n ps 0 P w (wr.alloc (.cells (madeCells #[.pointer none] ps.length) 52)) where
  below := h.below.alloc (by rw [h.size]; omega) _
  size := by simp [h.size]
  pool := by rw [Below.heap_alloc _ _ _ (by rw [h.size]; omega)]; exact h.pool
  map := by rw [Below.heap_alloc _ _ _ (by rw [h.size]; omega)]; exact h.map
  txns := h.txns.of_same fun j hj => Below.heap_alloc _ _ _ (by rw [h.size]; omega)
  bs := by rw [bsCells_zero (P + 2) ps, ← h.size]; exact heap_alloc_new wr _

theorem BsAt.step {ids : List Int} {n k P : Nat} {ps : List Nat} {w wr : World} (h : BsAt ids n ps k P w wr) (hk : k < ps.length) {v : Value} (hv : v = ptr (P + 2) (ps.getD k 0)) : BsAt ids n ps (k + 1) P w (wr.setCell ⟨P + 2 + n, k, none⟩ v) where
  below := h.below.setCell (show P ≤ P + 2 + n by omega) _
  size := by simp [h.size]
  pool := by rw [heap_setCell_other _ _ _ _ (show P ≠ P + 2 + n by omega)]; exact h.pool
  map := by rw [heap_setCell_other _ _ _ _ (show P + 1 ≠ P + 2 + n by omega)]; exact h.map
  txns := h.txns.of_same fun j hj => heap_setCell_other _ _ _ _ (show P + 2 + j ≠ P + 2 + n by omega)
  bs := by rw [heap_setCell_same _ _ _ _ _ _ h.bs, hv, bsCells_step _ _ _ hk]

theorem BsAt.poolCell {ids : List Int} {n k P : Nat} {ps : List Nat} {w wr : World} (h : BsAt ids n ps k P w wr) {i : Nat} (hi : i < n) : wr.cell? ⟨P, i, none⟩ = some (ptr (P + 2) i) := by
  rw [cell_of_row wr P i _ 52 _ h.pool, poolCells_at, if_pos hi, if_pos hi]
theorem BsAt.bsCell {ids : List Int} {n k P : Nat} {ps : List Nat} {w wr : World} (h : BsAt ids n ps k P w wr) {i : Nat} (hi : i < ps.length) : wr.cell? ⟨P + 2 + n, i, none⟩ = some (if i < k then ptr (P + 2) (ps.getD i 0) else .pointer none) := by
  rw [cell_of_row wr _ i _ 52 _ h.bs, bsCells_at, if_pos hi]

theorem BsAt.holds {ids : List Int} {n P : Nat} {ps : List Nat} {w wr : World} (h : BsAt ids n ps ps.length P w wr) (hps : ∀ x, x ∈ ps → x < n) : Sort.Holds (encN n (P + 2)) wr (P + 2 + n) 0 ps.toArray := fun j hj => by
  have hj' : j < ps.length := by simpa using hj
  rw [Nat.zero_add, h.bsCell hj', if_pos hj', arr_at ps j hj']
  refine ⟨?_, frozen_of_row _ _ _ _ _ h.bs⟩
  unfold encN
  rw [norm_of (hps _ (getD_mem hj'))]

/-! ### The row of answers -/
def resCells (l : List Nat) (k : Nat) : Array Value := ((List.range l.length).map fun i => .int .i64 (if i < k then ((l.getD i 0 : Nat) : Int) else 0)).toArray

theorem resCells_at (l : List Nat) (k i : Nat) : (resCells l k)[i]? = if i < l.length then some (.int .i64 (if i < k then ((l.getD i 0 : Nat) : Int) else 0)) else none := by
  by_cases h : i < l.length
  · simp only [resCells, List.getElem?_toArray, List.getElem?_map, List.getElem?_range h, Option.map_some, if_pos h]
  · simp [resCells, h]

theorem resCells_zero (l : List Nat) : madeCells #[Value.int .i64 0] l.length = resCells l 0 := by
  apply Array.ext_getElem?
  intro i
  rw [made_at, resCells_at]
  simp

theorem resCells_step (l : List Nat) (k : Nat) (h : k < l.length) : (resCells l k).setIfInBounds k (.int .i64 ((l.getD k 0 : Nat) : Int)) = resCells l (k + 1) := by
  apply Array.ext_getElem?
  intro i
  rw [Array.getElem?_setIfInBounds, resCells_at, resCells_at]
  have hs : (resCells l k).size = l.length := by simp [resCells]
  by_cases e : k = i
  · subst e; rw [if_pos rfl, if_pos (by rw [hs]; exact h), if_pos h, if_pos (Nat.lt_succ_self k)]
  · rw [if_neg e]
    by_cases h1 : i < k
    · rw [if_pos h1, if_pos (show i < k + 1 by omega)]
    · rw [if_neg h1, if_neg (show ¬ i < k + 1 by omega)]

theorem info3' : (Try.prog.info? 3).map (fun i => (i.zero, i.size, i.bytes)) = some (some (.int .i64 0), 1, 8) := by kernel_rfl
theorem make23 (n : Nat) (h : n ≤ 16384) (w : World) : (Instr.makeSlice 23 (.int .i64 (n : Int)) (.int .i64 (n : Int))).run Try.prog w = .ok (.slice (some ⟨w.heap.size, 0, none⟩) n n) (w.alloc (.cells (madeCells #[.int .i64 0] n) 3)) :=
  run_make_row' (P := Try.prog) 23 3 (.int .i64 0) 8 Try.underlying23 info3' rfl .i64 .i64 n (by omega) (by omega) w

/-- What holds when k answers are laid: wx: the world behind inIDOrder; M: the map's block; Q: the ordered row's; R: the answers'. -/
structure ResAt (ids : List Int) (n : Nat) (l : List Nat) (k P Q : Nat) (w wx wr : World) : Prop where
  below : Below P w wr
  size : wr.heap.size = wx.heap.size + 1
  map : wr.heap[P + 1]? = some (.map (ptrEnts (P + 2) n) n)
  txns : Txns ids n (P + 2) wr
  out : ∀ i, i < l.length → wr.cell? ⟨Q, i, none⟩ = some (ptr (P + 2) (l.getD i 0))
  res : wr.heap[wx.heap.size]? = some (.cells (resCells l k) 3 (0, 0))

theorem ResAt.start {ids : List Int} {n P Q : Nat} {l : List Nat} {w wx : World} (hb : Below P w wx) (hP : P ≤ wx.heap.size) (hm : wx.heap[P + 1]? = some (.map (ptrEnts (P + 2) n) n)) (ht : Txns ids n (P + 2) wx)
    (ho : ∀ i, i < l.length → wx.cell? ⟨Q, i, none⟩ = some (ptr (P + 2) (l.getD i 0))) : ResAt ids n l 0 P Q w wx (wx.alloc (.cells (madeCells #[.int .i64 0] l.length) 3)) where
  below := hb.alloc hP _
  size := by simp
  map := by rw [Below.heap_alloc _ _ _ (Array.getElem?_eq_some_iff.1 hm).1]; exact hm
  txns := ht.of_same fun j hj => Below.heap_alloc _ _ _ (ht.lt hj)
  out := fun i hi => by rw [World.cell?_alloc_lt _ _ _ (block_lt_of_cell (ho i hi))]; exact ho i hi
  res := by rw [resCells_zero]; exact heap_alloc_new wx _

theorem ResAt.step {ids : List Int} {n k P Q : Nat} {l : List Nat} {w wx wr : World} (h : ResAt ids n l k P Q w wx wr) (hk : k < l.length) (hP : P ≤ wx.heap.size) (hP1 : P + 1 ≠ wx.heap.size) (hQ : Q ≠ wx.heap.size) (hT : ∀ j, j < n → P + 2 + j ≠ wx.heap.size) {v : Value} (hv : v = .int .i64 ((l.getD k 0 : Nat) : Int)) :
    ResAt ids n l (k + 1) P Q w wx (wr.setCell ⟨wx.heap.size, k, none⟩ v) where
  below := h.below.setCell hP _
  size := by simp [h.size]
  map := by rw [heap_setCell_other _ _ _ _ hP1]; exact h.map
  txns := h.txns.of_same fun j hj => heap_setCell_other _ _ _ _ (hT j hj)
  out := fun i hi => by rw [World.cell?_setCell_other _ _ _ _ (fun e => hQ (by cases e; rfl))]; exact h.out i hi
  res := by rw [heap_setCell_same _ _ _ _ _ _ h.res, hv, resCells_step _ _ hk]

theorem ResAt.cell {ids : List Int} {n k P Q : Nat} {l : List Nat} {w wx wr : World} (h : ResAt ids n l k P Q w wx wr) {i : Nat} (hi : i < l.length) : wr.cell? ⟨wx.heap.size, i, none⟩ = some (.int .i64 (if i < k then ((l.getD i 0 : Nat) : Int) else 0)) := by
  rw [cell_of_row wr _ i _ 3 _ h.res, resCells_at, if_pos hi]

end Go.Proofs.Qxb6612769a
