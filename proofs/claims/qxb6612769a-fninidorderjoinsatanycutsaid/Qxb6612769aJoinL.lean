/-
  FnInIDOrderJoinsAtAnyCut of seat b6612769a: small laws on rows, copies and cuts.
-/
import Derived.Test.Qxb6612769aPoolW
import Derived.Laws.CopyOwn
import Derived.Deep.DeepCutAuto
import Derived.WalkSpells
namespace Go.Proofs.Qxb6612769a
open Go.RowKit

theorem idxIn22 (x : Addr) (len cap i : Nat) (h : i < len) (W : World) : (Instr.indexAt 22 (.slice (some x) len cap) (.int .i64 (i : Int))).run Try.prog W = .ok (.pointer (some (x.add i))) W := by
  have h' : (i : Int) < (len : Int) := by omega
  go_simp
theorem idxIn23 (x : Addr) (len cap i : Nat) (h : i < len) (W : World) : (Instr.indexAt 23 (.slice (some x) len cap) (.int .i64 (i : Int))).run Try.prog W = .ok (.pointer (some (x.add i))) W := by
  have h' : (i : Int) < (len : Int) := by omega
  go_simp
theorem idx28 (g n c i : Nat) (h : i < n) (W : World) : (Instr.indexAt 28 (.slice (some ⟨g, 0, none⟩) n c) (.int .i64 (i : Int))).run Try.prog W = .ok (.pointer (some ⟨g, i, none⟩)) W := by
  have h' : (i : Int) < (n : Int) := by omega
  go_simp

theorem info29 : (Try.prog.info? 29).map (fun i => (i.zero, i.size, i.bytes)) = some (some (.int .u64 0), 1, 8) := by kernel_rfl
theorem info4 : (Try.prog.info? 4).map (fun i => (i.zero, i.size, i.bytes)) = some (some (.bool false), 1, 1) := by kernel_rfl
theorem size29 : (Try.prog.info? 29).map (·.size) = some 1 := by kernel_rfl
theorem size3 : (Try.prog.info? 3).map (·.size) = some 1 := by kernel_rfl
theorem make22 (n : Nat) (h : n ≤ 16384) (w : World) : (Instr.makeSlice 22 (.int .i64 (n : Int)) (.int .i64 (n : Int))).run Try.prog w = .ok (.slice (some ⟨w.heap.size, 0, none⟩) n n) (w.alloc (.cells (madeCells #[.int .u64 0] n) 29)) :=
  run_make_row' (P := Try.prog) 22 29 (.int .u64 0) 8 Try.underlying22 info29 rfl .i64 .i64 n (by omega) (by omega) w
theorem make28 (n : Nat) (h : n ≤ 16384) (w : World) : (Instr.makeSlice 28 (.int .i64 (n : Int)) (.int .i64 (n : Int))).run Try.prog w = .ok (.slice (some ⟨w.heap.size, 0, none⟩) n n) (w.alloc (.cells (madeCells #[.bool false] n) 4)) :=
  run_make_row' (P := Try.prog) 28 4 (.bool false) 1 Try.underlying28 info4 rfl .i64 .i64 n (by omega) (by omega) w

/-- A slice that came in. -/
structure InAt (T : TypeId) (k : IntKind) (w : World) (a : Option Addr) (len cap : Nat) (zs : List Int) (adr : Nat → Addr) : Prop where
  row : RowAt T k w a len cap zs adr
  nil : a = none → len = 0 ∧ cap = 0
  at_ : ∀ x, a = some x → ∀ j, adr j = x.add j

def intCells (k : IntKind) (zs : List Int) : List Value := zs.map fun z => .int k z
theorem intCells_length (k : IntKind) (zs : List Int) : (intCells k zs).length = zs.length := by simp [intCells]
theorem intCells_at (k : IntKind) (zs : List Int) (j : Nat) (h : j < zs.length) : (intCells k zs)[j]? = some (.int k (zs.getD j 0)) := by
  simp [intCells, List.getD_eq_getElem?_getD, h]
theorem intCells_one (k : IntKind) (zs : List Int) : ∀ v ∈ intCells k zs, v.oneCell' = true := by
  intro v hv
  obtain ⟨z, _, rfl⟩ := List.mem_map.1 hv
  rfl

theorem InAt.src {T : TypeId} {k : IntKind} {w wx : World} {x : Addr} {len cap : Nat} {zs : List Int} {adr : Nat → Addr} (h : InAt T k w (some x) len cap zs adr) (hb : Below w.heap.size w wx) :
    ∀ j v, (intCells k zs)[j]? = some v → wx.cell? (x.add j) = some v := by
  intro j v hv
  have hj : j < zs.length := by
    have := (List.getElem?_eq_some_iff.1 hv).1
    rwa [intCells_length] at this
  rw [intCells_at k zs j hj] at hv
  rw [← h.at_ x rfl j]
  have := (h.row.later hb).cell j (by rw [← h.row.hlen]; exact hj)
  rw [this]
  exact hv

theorem splice_full {α : Type} (L cs : List α) (h : cs.length = L.length) : splice L 0 cs = cs := by
  simp [splice, h]

theorem made_length (z : Value) (n : Nat) : (madeCells #[z] n).toList.length = n := by
  rw [toList_madeCells_one]; simp

/-- The copy into a row that was just made. -/
theorem copy_new (T e : TypeId) (k : IntKind) (hu : Try.prog.underlying T = some (.slice e)) (hs : (Try.prog.info? e).map (·.size) = some 1) (w1 : World) (x : Addr) (n c : Nat) (zs : List Int) (z : Value) (hl : zs.length = n)
    (hsrc : ∀ j v, (intCells k zs)[j]? = some v → (w1.alloc (.cells (madeCells #[z] n) e)).cell? (x.add j) = some v) :
    ∃ w2, (Builtin.copy_ #[T, T] 3 #[.slice (some ⟨w1.heap.size, 0, none⟩) n n, .slice (some x) n c]).run Try.prog (w1.alloc (.cells (madeCells #[z] n) e)) = .ok (.int .i64 (n : Int)) w2 ∧
      w2.heap[w1.heap.size]? = some (.cells (intCells k zs).toArray e (0, 0)) ∧ Below w1.heap.size w1 w2 := by
  have hz : (madeCells #[z] n).toList.length = n := made_length z n
  have hsz : (madeCells #[z] n).size = n := by rw [← Array.length_toList]; exact hz
  have hlc : (intCells k zs).length = n := by rw [intCells_length, hl]
  have hg := heap_alloc_new w1 (.cells (madeCells #[z] n) e)
  have h := run_copy_row (P := Try.prog) (w1.alloc (.cells (madeCells #[z] n) e)) T T 3 e w1.heap.size 0 n n x n c _ e (intCells k zs) hu hs hg (by rw [hlc]; simp) hsrc (by rw [hlc, hsz]; omega) (intCells_one k zs)
  have ee : (madeCells #[z] n).toList.take 0 ++ intCells k zs ++ (madeCells #[z] n).toList.drop (0 + (intCells k zs).length) = intCells k zs := by
    rw [List.drop_eq_nil_of_le (by rw [hz, hlc]; omega)]; simp
  rw [ee, hlc] at h
  exact ⟨_, h, setRow_heap _ _ _ _ e _ hg, below_setRow ((Below.refl _ _).alloc (Nat.le_refl _) _) (Nat.le_refl _) _⟩

theorem rowAt_heap22 {w : World} {g n c : Nat} {ids : List Int} {t : TypeId} {fz : Nat × Nat} (hl : ids.length = n) (h : w.heap[g]? = some (.cells (intCells .u64 ids).toArray t fz)) : RowAt 22 .u64 w (some ⟨g, 0, none⟩) n c ids (fun i => ⟨g, 0 + i, none⟩) where
  hlen := hl
  idx := fun i hi W => idx22 g 0 n c i hi W
  cell := fun i hi => by rw [cell_of_row w g _ _ t fz h, Nat.zero_add, List.getElem?_toArray, intCells_at _ _ _ (by omega)]

theorem rowAt_heap23 {w : World} {g off n m c : Nat} {zs : List Int} {t : TypeId} {fz : Nat × Nat} (hl : zs.length = m) (ho : off + n ≤ m) (h : w.heap[g]? = some (.cells (intCells .i64 zs).toArray t fz)) : RowAt 23 .i64 w (some ⟨g, off, none⟩) n c ((zs.drop off).take n) (fun i => ⟨g, off + i, none⟩) where
  hlen := by simp; omega
  idx := fun i hi W => idx23 g off n c i hi W
  cell := fun i hi => by
    rw [cell_of_row w g _ _ t fz h, List.getElem?_toArray, intCells_at _ _ _ (by omega)]
    simp [List.getD_eq_getElem?_getD, hi]

theorem rowAt_none {w : World} {T : TypeId} {k : IntKind} {a : Option Addr} {c : Nat} {d : Nat → Addr} : RowAt T k w a 0 c [] d :=
  ⟨rfl, fun i hi => absurd hi (Nat.not_lt_zero i), fun i hi => absurd hi (Nat.not_lt_zero i)⟩

theorem natInts_take (l : List Nat) (k : Nat) : (natInts l).take k = natInts (l.take k) := by simp [natInts, List.map_take]
theorem natInts_drop (l : List Nat) (k : Nat) : (natInts l).drop k = natInts (l.drop k) := by simp [natInts, List.map_drop]

theorem pool_nats {zs : List Int} {n : Nat} (h : inPool zs (n : Int) = true) : ∃ ps : List Nat, zs = natInts ps ∧ ∀ x, x ∈ ps → x < n := by
  have h' : ∀ x, x ∈ zs → 0 ≤ x ∧ x < (n : Int) := fun x hx => by
    have := (List.all_eq_true.1 h) x hx
    simpa using this
  refine ⟨zs.map Int.toNat, ?_, ?_⟩
  · apply List.ext_getElem?
    intro i
    simp only [natInts, List.getElem?_map]
    cases e : zs[i]? with
    | none => rfl
    | some x =>
      have := h' x (List.mem_of_getElem? e)
      simp; omega
  · intro x hx
    obtain ⟨y, hy, rfl⟩ := List.mem_map.1 hx
    have := h' y hy
    omega

/-- The picks behind the copy: nil, or a row of their own. -/
def Picked (w : World) (v : Value) (ps : List Nat) : Prop :=
  (v = .slice none 0 0 ∧ ps = []) ∨ ∃ g, v = .slice (some ⟨g, 0, none⟩) ps.length ps.length ∧ w.heap[g]? = some (.cells (intCells .i64 (natInts ps)).toArray 3 (0, 0))

/-- What the walk asks of the picks and of their two parts at a cut. -/
structure Cuts (w : World) (v : Value) (ps : List Nat) (cut : Nat) (a aL aR : Option Addr) (c cL cR : Nat) (d dL dR : Nat → Addr) : Prop where
  eq : v = .slice a ps.length c
  whole : RowAt 23 .i64 w a ps.length c (natInts ps) d
  left : RowAt 23 .i64 w aL (ps.take cut).length cL (natInts (ps.take cut)) dL
  right : RowAt 23 .i64 w aR (ps.drop cut).length cR (natInts (ps.drop cut)) dR
  runL : ∀ W : World, (Instr.slice 23 (.slice a ps.length c) none (some (.int .i64 (cut : Int))) none).run Try.prog W = .ok (.slice aL (ps.take cut).length cL) W
  runR : ∀ W : World, (Instr.slice 23 (.slice a ps.length c) (some (.int .i64 (cut : Int))) none none).run Try.prog W = .ok (.slice aR (ps.drop cut).length cR) W

theorem under23 : Try.prog.underlying 23 = some (.slice (Try.prog.elem 23)) := by kernel_rfl
theorem size3_run (W : World) : (sizeOf (Try.prog.elem 23)).run Try.prog W = .ok 1 W := by kernel_rfl

theorem Picked.cuts {w : World} {v : Value} {ps : List Nat} {cut : Nat} (h : Picked w v ps) (hc : cut ≤ ps.length) : ∃ a aL aR c cL cR d dL dR, Cuts w v ps cut a aL aR c cL cR d dL dR := by
  rcases h with ⟨rfl, rfl⟩ | ⟨g, rfl, hg⟩
  · have hc0 : cut = 0 := by simpa using hc
    subst hc0
    refine ⟨none, none, none, 0, 0, 0, fun i => ⟨0, i, none⟩, fun i => ⟨0, i, none⟩, fun i => ⟨0, i, none⟩, rfl, rowAt_none, rowAt_none, rowAt_none, fun W => ?_, fun W => ?_⟩
    · rw [run_slice_h (P := Try.prog) (w := W) 23 none _ _ under23 .i64 _ (by simp) (by simp), size3_run]
      rfl
    · rw [run_slice_l (P := Try.prog) (w := W) 23 none _ _ under23 .i64 _ (by simp) (by simp), size3_run]
      rfl
  · have hl : (natInts ps).length = ps.length := natInts_length ps
    have eL : (ps.take cut).length = cut := by simp; omega
    have eR : (ps.drop cut).length = ps.length - cut := by simp
    have rw1 := rowAt_heap23 (off := 0) (n := ps.length) (c := ps.length) hl (by omega) hg
    have rw2 := rowAt_heap23 (off := 0) (n := cut) (c := ps.length) hl (by omega) hg
    have rw3 := rowAt_heap23 (off := cut) (n := ps.length - cut) (c := ps.length - cut) hl (by omega) hg
    rw [List.drop_zero, List.take_of_length_le (by omega)] at rw1
    rw [List.drop_zero, natInts_take] at rw2
    rw [List.take_of_length_le (by simp [hl]), natInts_drop] at rw3
    by_cases hx : cut = ps.length
    · refine ⟨some ⟨g, 0, none⟩, some ⟨g, 0, none⟩, some ⟨g, 0, none⟩, ps.length, ps.length, 0, _, _, fun i => ⟨0, i, none⟩, rfl, rw1, by rw [eL]; exact rw2, ?_, fun W => ?_, fun W => ?_⟩
      · rw [hx, List.drop_length]; exact rowAt_none
      · rw [run_slice_h (P := Try.prog) (w := W) 23 _ _ _ under23 .i64 _ (by omega) (by omega), size3_run, eL]
        simp [sliced, Result.andThen, Addr.add]
      · rw [run_slice_l (P := Try.prog) (w := W) 23 _ _ _ under23 .i64 _ (by omega) (by omega), size3_run, eR]
        simp [sliced, Result.andThen, hx]
    · refine ⟨some ⟨g, 0, none⟩, some ⟨g, 0, none⟩, some ⟨g, cut, none⟩, ps.length, ps.length, ps.length - cut, _, _, _, rfl, rw1, by rw [eL]; exact rw2, by rw [eR]; exact rw3, fun W => ?_, fun W => ?_⟩
      · rw [run_slice_h (P := Try.prog) (w := W) 23 _ _ _ under23 .i64 _ (by omega) (by omega), size3_run, eL]
        simp [sliced, Result.andThen, Addr.add]
      · have hne : ¬ ps.length = cut := fun e => hx e.symm
        rw [run_slice_l (P := Try.prog) (w := W) 23 _ _ _ under23 .i64 _ (by omega) (by omega), size3_run, eR]
        simp only [sliced, Result.andThen, Int.toNat_natCast, if_neg hne, Option.map_some, Nat.mul_one, Addr.add]
        by_cases h0 : cut = 0
        · simp [h0]
        · simp [h0]

/-- The row picked when the members of s are marked. -/
def markCells (n : Nat) (s : List Nat) : Array Value := ((List.range n).map fun i => .bool (decide (i ∈ s))).toArray
theorem markCells_at (n : Nat) (s : List Nat) (i : Nat) : (markCells n s)[i]? = if i < n then some (.bool (decide (i ∈ s))) else none := by
  by_cases h : i < n
  · simp [markCells, h]
  · simp [markCells, h]
theorem markCells_zero (n : Nat) : madeCells #[Value.bool false] n = markCells n [] := by
  apply Array.ext_getElem?
  intro i
  rw [made_at, markCells_at]
  simp
theorem markCells_step (n : Nat) (s : List Nat) (p : Nat) (hp : p < n) : (markCells n s).setIfInBounds p (.bool true) = markCells n (s ++ [p]) := by
  apply Array.ext_getElem?
  intro i
  have hs : (markCells n s).size = n := by simp [markCells]
  rw [Array.getElem?_setIfInBounds, markCells_at, markCells_at, hs]
  by_cases e : p = i
  · subst e; simp [hp]
  · rw [if_neg e]
    by_cases hi : i < n
    · have : ¬ i = p := fun h => e h.symm
      simp [hi, this]
    · simp [hi]

theorem ordRow {w : World} {g : Nat} {l : List Nat} {c : Nat} (h : ∀ i, i < l.length → w.cell? ⟨g, i, none⟩ = some (.int .i64 ((l.getD i 0 : Nat) : Int))) : RowAt 23 .i64 w (some ⟨g, 0, none⟩) l.length c (natInts l) (fun i => ⟨g, 0 + i, none⟩) where
  hlen := natInts_length l
  idx := fun i hi W => idx23 g 0 _ c i hi W
  cell := fun i hi => by rw [natInts_at, Nat.zero_add]; exact h i hi

theorem ownRow {w : World} {B : Nat} {v : Value} {l : List Nat} (h : w.ownsRow B 3 1 v l.length (natCells l)) : ∃ a c d, v = .slice a l.length c ∧ RowAt 23 .i64 w a l.length c (natInts l) d := by
  rcases h.2 with ⟨rfl, h0⟩ | ⟨g, cap, cur, rfl, _⟩
  · have : l = [] := List.eq_nil_of_length_eq_zero h0
    subst this
    exact ⟨none, 0, fun i => ⟨0, i, none⟩, rfl, rowAt_none⟩
  · refine ⟨_, cap, _, rfl, ordRow fun i hi => ?_⟩
    rw [h.cellAt i (by omega)]
    simp [natCells, List.getD_eq_getElem?_getD, hi]

end Go.Proofs.Qxb6612769a
