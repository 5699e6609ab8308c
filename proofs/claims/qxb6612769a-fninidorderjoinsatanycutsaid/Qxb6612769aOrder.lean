/-
  inIDOrder of seat b6612769a: slices.SortFunc by the library's contract, slices.Compact by this seat's own.
-/
import Derived.Test.Qxb6612769aWalksB
import Derived.Test.Qxb6612769aPlain
import Derived.Test.Qxb6612769aPtr
import Derived.Test.Qxb6612769aCompact
import Derived.Test.Qxb6612769aShelf
import Derived.Maps.AppendAt
namespace Go.Proofs.Qxb6612769a
open Go.RowKit Go.Lib

/-- A place of the pool, whatever the number. -/
def norm (n j : Nat) : Nat := if j < n then j else 0
theorem norm_lt {n : Nat} (h : 0 < n) (j : Nat) : norm n j < n := by unfold norm; split <;> omega
theorem norm_of {n j : Nat} (h : j < n) : norm n j = j := if_pos h

def encN (n B j : Nat) : Value := ptr B (norm n j)
def cfN (ids : List Int) (n x y : Nat) : Int := cmpI (idAt ids (norm n x)) (idAt ids (norm n y))

theorem ltN (ids : List Int) (n x y : Nat) : ltOf (cfN ids n) x y = decide (idAt ids (norm n x) < idAt ids (norm n y)) := by
  unfold ltOf cfN cmpI
  by_cases h1 : idAt ids (norm n x) < idAt ids (norm n y)
  · simp [h1]
  · by_cases h2 : idAt ids (norm n y) < idAt ids (norm n x) <;> simp [h1, h2]

theorem swoN (ids : List Int) (n : Nat) : Sort.SWO (ltOf (cfN ids n)) where
  irrefl x := by rw [ltN]; simp
  trans x y z h1 h2 := by rw [ltN] at *; simp only [decide_eq_true_eq] at *; omega
  ntrans x y z h1 h2 := by rw [ltN] at *; simp only [decide_eq_false_iff_not] at *; omega

/-- The pool's transactions lie in memory. -/
def Txns (ids : List Int) (n B : Nat) (w : World) : Prop := ∀ j, j < n → ∃ c, w.heap[B + j]? = some (.cells c 75 (0, 0)) ∧ c[8]? = some (.int .u64 (idAt ids j))

theorem Txns.cell {ids : List Int} {n B : Nat} {w : World} (h : Txns ids n B w) {j : Nat} (hj : j < n) : w.cell? ⟨B + j, 8, none⟩ = some (.int .u64 (idAt ids j)) := by
  obtain ⟨c, hc, h8⟩ := h j hj
  rw [cell_of_row w _ 8 c 75 _ hc, h8]
theorem Txns.lt {ids : List Int} {n B : Nat} {w : World} (h : Txns ids n B w) {j : Nat} (hj : j < n) : B + j < w.heap.size := block_lt_of_cell (h.cell hj)
theorem Txns.of_same {ids : List Int} {n B : Nat} {w w' : World} (h : Txns ids n B w) (hs : ∀ j, j < n → w'.heap[B + j]? = w.heap[B + j]?) : Txns ids n B w' := fun j hj => by rw [hs j hj]; exact h j hj

theorem heap_sortWorld {α : Type} [Inhabited α] (enc : α → Value) (w : World) (blk off q : Nat) (d : Array α) (os : Array Obj) (b : Nat) (hb : b ≠ blk) (hl : b < w.heap.size) : (sortWorld enc w blk off q d os).heap[b]? = w.heap[b]? := by
  unfold sortWorld
  show ((Sort.putRow enc (Sort.ahead w q) blk off d).heap ++ os)[b]? = _
  rw [Array.getElem?_append_left (by rw [Sort.size_putRow]; exact hl), heap_putRow_other enc w q blk off d b hb]

theorem cell_sortWorld {α : Type} [Inhabited α] (enc : α → Value) (w : World) (blk off q : Nat) (d : Array α) (os : Array Obj) (a : Addr) (hb : a.block ≠ blk) (hl : a.block < w.heap.size) : (sortWorld enc w blk off q d os).cell? a = w.cell? a :=
  World.cell?_of_block (w := w) (heap_sortWorld enc w blk off q d os a.block hb hl)

theorem grown_sortWorld {α : Type} [Inhabited α] (enc : α → Value) (w : World) (blk off q : Nat) (d : Array α) (os : Array Obj) : w.grownBy (sortWorld enc w blk off q d os) (some blk) where
  os := rfl
  tape := rfl
  output := rfl
  size := by
    show _ ≤ ((Sort.putRow enc (Sort.ahead w q) blk off d).heap ++ os).size
    rw [Array.size_append, Sort.size_putRow]
    exact Nat.le_add_right _ _
  block := fun k hk hne => heap_sortWorld enc w blk off q d os k (fun e => hne (by rw [e])) hk

theorem grown_putRow {α : Type} [Inhabited α] (enc : α → Value) (w : World) (blk off q : Nat) (d : Array α) : w.grownBy (Sort.putRow enc (Sort.ahead w q) blk off d) (some blk) where
  os := rfl
  tape := rfl
  output := rfl
  size := by rw [Sort.size_putRow]; exact Nat.le_refl _
  block := fun k _ hne => heap_putRow_other enc w q blk off d k (fun e => hne (by rw [e]))

/-- The closure in every world that the sort passes through. -/
theorem cmp_reads {ids : List Int} {n B blk off size : Nat} {w : World} (hn : 0 < n) (hT : Txns ids n B w) (hne : ∀ j, j < n → B + j ≠ blk) : CmpReads Try.prog 30 #[] (encN n B) (cfN ids n) blk off size w := by
  intro m os dk _ x y
  have hx := norm_lt hn x
  have hy := norm_lt hn y
  exact closure_any (B + norm n x) (B + norm n y) _ _ _ ((cell_sortWorld (encN n B) w blk off m dk os ⟨B + norm n x, 8, none⟩ (hne _ hx) (hT.lt hx)).trans (hT.cell hx))
    ((cell_sortWorld (encN n B) w blk off m dk os ⟨B + norm n y, 8, none⟩ (hne _ hy) (hT.lt hy)).trans (hT.cell hy))

theorem compact_len {α : Type} [Inhabited α] [DecidableEq α] (d : Array α) (m : Nat) : (compactUpTo d m).length ≤ m := by
  unfold compactUpTo
  rw [List.length_map]
  have := List.length_filter_le (keeps d) (List.range m)
  rwa [List.length_range] at this

theorem arr_at (l : List Nat) (j : Nat) (h : j < l.length) : l.toArray[j]! = l.getD j 0 := by
  rw [getElem!_pos _ j (by simpa using h)]
  simp [h]

/-- THE PLAIN STEP: a permutation that ascends, compacted, is the order. -/
theorem order_plain {ids : List Int} {n : Nat} {ps : List Nat} (hps : ∀ x, x ∈ ps → x < n) (hinj : Inj ids n) {d' : Array Nat} (hp : Sort.PermIn 0 ps.toArray.size ps.toArray d') (hs : Sort.SortedIn (ltOf (cfN ids n)) 0 ps.toArray.size d') :
    (∀ x, x ∈ d'.toList ↔ x ∈ ps) ∧ IsOrd ids ps ((compactUpTo (d'.toList.map some).toArray (d'.toList.map some).toArray.size).map fun o => o.getD 0) ∧
      ∀ o, o ∈ compactUpTo (d'.toList.map some).toArray (d'.toList.map some).toArray.size → ∃ x, o = some x := by
  have hsz : d'.size = ps.length := by simpa using hp.1
  have hperm : d'.toList.Perm ps := by
    have := hp.2.2
    rw [show (d'.extract 0 ps.toArray.size) = d' by rw [show ps.toArray.size = d'.size by simp [hsz]]; simp, show (ps.toArray.extract 0 ps.toArray.size) = ps.toArray by simp] at this
    simpa using this
  have hmem : ∀ x, x ∈ d'.toList ↔ x ∈ ps := fun x => hperm.mem_iff
  have hat : ∀ j, j < d'.size → (d'.toList.map some).toArray[j]! = some d'[j]! := fun j hj => by
    rw [getElem!_pos _ j (by simpa using hj), getElem!_pos d' j hj]; simp
  have hin : ∀ j, j < d'.size → d'[j]! < n := fun j hj => hps _ ((hmem _).1 (by rw [getElem!_pos d' j hj]; simp))
  have hds : (d'.toList.map some).toArray.size = d'.size := by simp
  have hc := compact_asc (fun o : Option Nat => idAt ids (o.getD 0)) (d'.toList.map some).toArray
    (fun i j hij hj => by
      rw [hds] at hj
      rw [hat i (by omega), hat j hj]
      have := hs i j (Nat.zero_le _) hij (by simpa [hsz] using hj)
      rw [ltN, decide_eq_false_iff_not, norm_of (hin i (by omega)), norm_of (hin j hj)] at this
      simpa using this)
    (fun i j hi hj e => by
      rw [hds] at hi hj
      rw [hat i hi, hat j hj] at e ⊢
      exact congrArg some (hinj _ _ (hin i hi) (hin j hj) e))
    _ (Nat.le_refl _)
  have hsome : ∀ o, o ∈ compactUpTo (d'.toList.map some).toArray (d'.toList.map some).toArray.size → ∃ x, o = some x := fun o ho => by
    obtain ⟨j, hj, rfl⟩ := (hc.2 o).1 ho
    rw [hds] at hj
    exact ⟨_, hat j hj⟩
  refine ⟨hmem, ⟨?_, fun x => ?_⟩, hsome⟩
  · unfold Asc
    rw [List.pairwise_map]
    exact hc.1
  · rw [List.mem_map, ← hmem]
    constructor
    · rintro ⟨o, ho, rfl⟩
      obtain ⟨j, hj, rfl⟩ := (hc.2 o).1 ho
      rw [hds] at hj
      rw [hat j hj, getElem!_pos d' j hj]
      simp
    · intro hx
      obtain ⟨j, hj, rfl⟩ := List.getElem_of_mem hx
      refine ⟨some d'.toList[j], (hc.2 _).2 ⟨j, by simpa using hj, ?_⟩, rfl⟩
      rw [hat j (by simpa using hj), getElem!_pos d' j (by simpa using hj)]
      simp

end Go.Proofs.Qxb6612769a
