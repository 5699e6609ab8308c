/-
  THE WALKS of seat b6612769a, third part: maps at the raw level; zzDistinctIDs.
-/
import Derived.Test.Qxb6612769aWalksB
import Derived.Test.Qxb6612769aPlain
import Derived.ChangeMaps5
import Derived.MapKept
namespace Go.Proofs.Qxb6612769a
open Go.RowKit
open Go.ChangeMaps (setBlock)

/-- A set of uint64s as the map's entries have it: the first k ids. -/
def setEnts (zs : List Int) (k : Nat) : Array MapEntry := ((List.range k).map fun i => { key := .int .u64 (zs.getD i 0), val := .bool true, born := i : MapEntry }).toArray

theorem findNow_set (zs : List Int) (x : Int) : ∀ (l : List Nat) (i : Nat),
    Instr.findNow (.int .u64) (.int .u64 x) (l.map fun i => { key := .int .u64 (zs.getD i 0), val := .bool true, born := i : MapEntry }) i = some none ∧ (∀ j, j ∈ l → zs.getD j 0 ≠ x) ∨
    (∃ j, Instr.findNow (.int .u64) (.int .u64 x) (l.map fun i => { key := .int .u64 (zs.getD i 0), val := .bool true, born := i : MapEntry }) i = some (some (j, .bool true))) ∧ ∃ j, j ∈ l ∧ zs.getD j 0 = x
  | [], i => .inl ⟨rfl, by simp⟩
  | a :: t, i => by
    simp only [List.map_cons, Instr.findNow, Instr.sameNow]
    by_cases h : zs.getD a 0 = x
    · right
      have hb : (x == zs.getD a 0) = true := by rw [h]; simp
      simp only [hb, if_true]
      exact ⟨⟨i, rfl⟩, a, by simp, h⟩
    · have hb : (x == zs.getD a 0) = false := by simp only [beq_eq_false_iff_ne]; exact fun e => h e.symm
      simp only [hb, if_true]
      rcases findNow_set zs x t (i + 1) with ⟨h1, h2⟩ | ⟨⟨j, h1⟩, j', h2, h3⟩
      · exact .inl ⟨h1, fun j hj => by rcases List.mem_cons.1 hj with e | e; subst e; exact h; exact h2 j e⟩
      · exact .inr ⟨⟨j, h1⟩, j', List.mem_cons_of_mem _ h2, h3⟩


theorem checkKey29 (b : Bool) (x : Int) (w : World) : (Instr.checkKey b 10000 29 (.int .u64 x)).run Try.prog w = .ok () w := by kernel_rfl

/-- The look-up in the set: not there. -/
theorem look_set_no {w : World} {r c : Nat} {zs : List Int} {k : Nat} {x : Int} (hb : w.heap[r]? = some (.map (setEnts zs k) c)) (hn : ∀ j, j < k → zs.getD j 0 ≠ x) :
    (Instr.lookup 49 (.map (some r)) (.int .u64 x) false).run Try.prog w = .ok (.bool false) w := by
  have hf : Instr.findNow (.int .u64) (.int .u64 x) (setEnts zs k).toList 0 = some none := by
    rcases findNow_set zs x (List.range k) 0 with ⟨h1, _⟩ | ⟨_, j, h2, h3⟩
    · simpa [setEnts] using h1
    · exact absurd h3 (hn j (List.mem_range.1 h2))
  simp [Instr.lookup, run_underlying Try.underlying49, MapKept.run_getObj_map hb, checkKey29, Instr.findKey, run_underlying Try.underlying29, hf]

/-- .. there. -/
theorem look_set_yes {w : World} {r c : Nat} {zs : List Int} {k : Nat} {x : Int} (hb : w.heap[r]? = some (.map (setEnts zs k) c)) {j : Nat} (hj : j < k) (he : zs.getD j 0 = x) :
    (Instr.lookup 49 (.map (some r)) (.int .u64 x) false).run Try.prog w = .ok (.bool true) w := by
  obtain ⟨i, hf⟩ : ∃ i, Instr.findNow (.int .u64) (.int .u64 x) (setEnts zs k).toList 0 = some (some (i, .bool true)) := by
    rcases findNow_set zs x (List.range k) 0 with ⟨_, h2⟩ | ⟨⟨i, h1⟩, _⟩
    · exact absurd he (h2 j (List.mem_range.2 hj))
    · exact ⟨i, by simpa [setEnts] using h1⟩
  simp [Instr.lookup, run_underlying Try.underlying49, MapKept.run_getObj_map hb, checkKey29, Instr.findKey, run_underlying Try.underlying29, hf]

/-- The set grows. -/
theorem put_set {w : World} {r : Nat} {zs : List Int} {k : Nat} {x : Int} (hb : w.heap[r]? = some (.map (setEnts zs k) k)) (hn : ∀ j, j < k → zs.getD j 0 ≠ x) (hx : x = zs.getD k 0) :
    (Instr.mapUpdate 49 (.map (some r)) (.int .u64 x) (.bool true)).run Try.prog w = .ok () (setBlock w r (.map (setEnts zs (k + 1)) (k + 1))) := by
  have hf : Instr.findNow (.int .u64) (.int .u64 x) (setEnts zs k).toList 0 = some none := by
    rcases findNow_set zs x (List.range k) 0 with ⟨h1, _⟩ | ⟨_, j, h2, h3⟩
    · simpa [setEnts] using h1
    · exact absurd h3 (hn j (List.mem_range.1 h2))
  have he : (setEnts zs k).push { key := .int .u64 x, val := .bool true, born := k } = setEnts zs (k + 1) := by
    subst hx
    simp [setEnts, List.range_succ]
  simp [Instr.mapUpdate, run_underlying Try.underlying49, MapKept.run_getObj_map hb, checkKey29, Instr.findKey, run_underlying Try.underlying29, hf, MapKept.run_setObj_map _ hb, he, setBlock]

theorem run_makeMap_some (t : TypeId) (kt et : TypeId) (ht : Try.prog.underlying t = some (.map kt et)) (n : Int) (w : World) : (Instr.makeMap t (some (.int .i64 n))).run Try.prog w = .ok (.map (some w.heap.size)) (w.alloc (.map #[] 0)) := by
  simp [Instr.makeMap, run_underlying ht, asInt, asIntOf]

theorem heap_setBlock_same {w : World} {r : Nat} {o o' : Obj} (h : w.heap[r]? = some o) : (setBlock w r o').heap[r]? = some o' := by
  have hr : r < w.heap.size := (Array.getElem?_eq_some_iff.1 h).1
  simp [setBlock, hr]
theorem heap_setBlock_other {w : World} {r b : Nat} {o' : Obj} (h : b ≠ r) : (setBlock w r o').heap[b]? = w.heap[b]? := by
  simp only [setBlock, Array.getElem?_setIfInBounds]
  rw [if_neg (fun e => h e.symm)]
theorem size_setBlock (w : World) (r : Nat) (o : Obj) : (setBlock w r o).heap.size = w.heap.size := by simp [setBlock]
theorem below_setBlock {B : Nat} {a w : World} (h : Below B a w) {r : Nat} (hr : B ≤ r) (o : Obj) : Below B a (setBlock w r o) :=
  ⟨h.os, h.tape, h.output, by rw [size_setBlock]; exact h.size, fun k hk => by rw [heap_setBlock_other (by omega)]; exact h.block k hk⟩

set_option maxHeartbeats 1000000 in
/-- zzDistinctIDs: where it answers true, the ids are distinct. -/
theorem distinct_any (a : Option Addr) (len cap : Nat) (zs : List Int) (adr : Nat → Addr) (w : World) (hl : len ≤ maxLen) (hR : RowAt 22 .u64 w a len cap zs adr) :
    Calls Try.prog 8 #[.slice a len cap] w fun e w' => ∃ b, e = .returned (.bool b) ∧ (b = true → Inj zs len) ∧ Below w.heap.size w w' := by
  unfold maxLen at hl
  have HI : Hid (∀ i : Nat, i < len → ∀ W : World, (Instr.indexAt 22 (.slice a len cap) (.int .i64 (i : Int))).run Try.prog W = .ok (.pointer (some (adr i))) W) := hR.idx
  have HC : Hid (∀ i : Nat, i < len → w.cell? (adr i) = some (.int .u64 (zs.getD i 0))) := hR.cell
  have hmm := run_makeMap_some 49 29 4 Try.underlying49 len
  clear hR
  go_enter Try.func8, Try.ntmps8
  go_wp2
  go_loopw [4] (fun i wr => ∃ k : Nat, k ≤ len ∧ i = .int .i64 k ∧ Hid (wr.heap[w.heap.size]? = some (.map (setEnts zs k) k)) ∧ Hid (Below w.heap.size w wr) ∧ Hid (Inj zs k)) (fun i _ => len - (intOf i).toNat)
  case atStart => exact ⟨0, Nat.zero_le _, rfl, heap_alloc_new w _, (Below.refl _ _).alloc (Nat.le_refl _) _, fun i j hi => absurd hi (Nat.not_lt_zero _)⟩
  case round =>
    obtain ⟨k, hk, rfl, hm, hb, hinj⟩ := hrel
    by_cases hlt : k < len
    · have f1 := HI.out k hlt
      have f2 : wr.cell? (adr k) = some (.int .u64 (zs.getD k 0)) := by rw [hb.out.cell (block_lt_of_cell (HC.out k hlt))]; exact HC.out k hlt
      obtain ⟨x, hx⟩ : ∃ x, x = zs.getD k 0 := ⟨_, rfl⟩
      rw [← hx] at f2
      have HX : Hid (x = zs.getD k 0) := hx
      clear hx
      by_cases hex : ∃ j, j < k ∧ zs.getD j 0 = x
      · obtain ⟨j, hj, he⟩ := hex
        have g1 := look_set_yes hm.out hj he
        clear he
        go_wp2
        go_ret
        exact ⟨false, rfl, (fun h => by cases h), hb.out⟩
      · have hn : ∀ j, j < k → zs.getD j 0 ≠ x := fun j hj e => hex ⟨j, hj, e⟩
        have g1 := look_set_no hm.out hn
        have g2 := put_set hm.out hn HX.out
        have HN : Hid (∀ j, j < k → zs.getD j 0 ≠ x) := hn
        clear hn hex
        go_wp2
        go_roundw
        case rel =>
          refine ⟨k + 1, by omega, by go_num, heap_setBlock_same hm.out, below_setBlock hb.out (Nat.le_refl _) _, fun i j hi hj e => ?_⟩
          by_cases ei : i = k
          · by_cases ej : j = k
            · omega
            · exact absurd (show zs.getD j 0 = x by rw [HX.out]; unfold idAt at e; rw [← e, ei]) (HN.out j (by omega))
          · by_cases ej : j = k
            · exact absurd (show zs.getD i 0 = x by rw [HX.out]; unfold idAt at e; rw [e, ej]) (HN.out i (by omega))
            · exact hinj.out i j (by omega) (by omega) e
        case measure => simp [intOf]; omega
    · obtain rfl : k = len := by omega
      go_wp2
      go_ret
      exact ⟨true, rfl, fun _ => hinj.out, hb.out⟩

end Go.Proofs.Qxb6612769a
