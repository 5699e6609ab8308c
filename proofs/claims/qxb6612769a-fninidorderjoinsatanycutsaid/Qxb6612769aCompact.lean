/-
  slices.Compact AT POINTERS, at this dump: the library's two loops walked, '==' of two elements told in the worlds that the call passes through alone (the shelf's contract asks it in every world, which no pointer can pay). After Derived/Shelf/SlicesE/Compact.lean.
-/
import Derived.Test.Qxb6612769aRows
import Derived.WalkKit
import Derived.RegionTactic
import Derived.Deep.LoopGhost
import Derived.Deep.Draws
import Derived.Lib.Walk
import Derived.Sort.WalkB12
import Derived.Lib.SliceRun
import Derived.Lib.SlicesCompact
import Derived.Shelf.SlicesE.Kit
namespace Go.Proofs.Qxb6612769a
open Go.RowKit Go.Lib Go.Sort

theorem heap_putRow_other {α : Type} [Inhabited α] (enc : α → Value) (w : World) (q blk off : Nat) (d : Array α) (b : Nat) (h : b ≠ blk) : (putRow enc (Sort.ahead w q) blk off d).heap[b]? = w.heap[b]? := by
  unfold putRow mapBlock
  simp only [Array.getElem?_modify]
  rw [if_neg (fun e => h e.symm)]
  rfl

theorem store_world {α : Type} [Inhabited α] (enc : α → Value) {w wr : World} {n blk off : Nat} {dk : Array α} {i : Nat} (hi : i < dk.size) (hwr : wr = putRow enc (Sort.ahead w n) blk off dk) (x : α) :
    (wr.setCell ⟨blk, off + i, none⟩ (enc x)).drew = putRow enc (Sort.ahead w (n + 1)) blk off (dk.setIfInBounds i x) := by
  subst hwr
  rw [putRow_set enc _ blk off dk i x hi, ← ahead_drew]
  rfl

theorem zero52 (w : World) : (zeroValue 52).run Try.prog w = .ok (.pointer none) w := by kernel_rfl

set_option maxHeartbeats 4000000 in
set_option maxRecDepth 1000000 in
theorem compact_at {α : Type} [Inhabited α] [DecidableEq α] (enc : α → Value) (hO : OneCell enc) (hgd' : ∀ (op : BinOp) (a b : Operand) (x y : α) (w : World), (eqGuard op 52 a b (enc x) (enc y)).run Try.prog w = .ok () w) (zr : α) (hzr : enc zr = .pointer none) (blk off cap : Nat) (d : Array α) (w : World)
    (heq : ∀ W : World, (∀ b, b ≠ blk → W.heap[b]? = w.heap[b]?) → ∀ i j, i < d.size → j < d.size → (binOp .eql 52 (enc d[i]!) (enc d[j]!)).run Try.prog W = .ok (.bool (decide (d[i]! = d[j]!))) W ∧ (binOp .neq 52 (enc d[i]!) (enc d[j]!)).run Try.prog W = .ok (.bool (!decide (d[i]! = d[j]!))) W)
    (hH : Holds enc w blk off d) (hsz : d.size ≤ 9223372036854775807) (hcap : d.size ≤ cap) :
    Calls Try.prog 32 #[.slice (some ⟨blk, off, none⟩) d.size cap] w fun e w' => e = .returned (.slice (some ⟨blk, off, none⟩) (compactUpTo d d.size).length cap) ∧ ∃ q, w' = putRow enc (Sort.ahead w q) blk off (compactUpTo d d.size ++ List.replicate (d.size - (compactUpTo d d.size).length) zr).toArray := by
  have HE : Aside (∀ W : World, (∀ b, b ≠ blk → W.heap[b]? = w.heap[b]?) → ∀ i j, i < d.size → j < d.size → (binOp .eql 52 (enc d[i]!) (enc d[j]!)).run Try.prog W = .ok (.bool (decide (d[i]! = d[j]!))) W ∧ (binOp .neq 52 (enc d[i]!) (enc d[j]!)).run Try.prog W = .ok (.bool (!decide (d[i]! = d[j]!))) W) := heq
  clear heq
  have v23 : ∀ w, (zeroValue 52).run Try.prog w = .ok (enc zr) w := fun w => by rw [hzr]; exact zero52 w
  have hcl0 := hO.cells
  simp only [Value.cells] at hcl0
  have hst := hO.store Try.prog
  have same : ∀ q, (∀ j, j < d.size → keeps d j = true) → (compactUpTo d d.size).length = d.size ∧ w.drewN q = putRow enc (Sort.ahead w q) blk off (compactUpTo d d.size ++ List.replicate (d.size - (compactUpTo d d.size).length) zr).toArray := by
    intro q hall
    have e : compactUpTo d d.size = d.toList := by rw [compactUpTo_all d _ hall, range_map_get]
    rw [e]
    refine ⟨by simp, ?_⟩
    simp only [Array.length_toList, Nat.sub_self, List.replicate_zero, List.append_nil, Array.toArray_toList]
    exact (putRow_self enc (Sort.ahead w q) blk off d (holds_ahead enc w q blk off d hH)).symm
  have HS : Aside (∀ q, (∀ j, j < d.size → keeps d j = true) → (compactUpTo d d.size).length = d.size ∧ w.drewN q = putRow enc (Sort.ahead w q) blk off (compactUpTo d d.size ++ List.replicate (d.size - (compactUpTo d d.size).length) zr).toArray) := same
  clear same
  have HV : Aside (∀ w, (zeroValue 52).run Try.prog w = .ok (enc zr) w) := v23
  clear v23 hzr
  by_cases h2 : d.size < 2
  · have HH : Aside (Holds enc w blk off d) := hH
    clear hH
    go_enter Try.func32, Try.ntmps32
    go_wp2
    go_ret
    obtain ⟨e1, e2⟩ := HS.out 0 (fun j hj => keeps_lt_one d j (by omega))
    exact ⟨by rw [e1]; rfl, 0, e2⟩
  · go_enter Try.func32, Try.ntmps32
    go_wp2
    go_loopg [3] d.size (fun g s3 wr => ∃ k q : Nat, 1 ≤ k ∧ k ≤ d.size ∧ d.size - k ≤ g ∧ s3 = .int .i64 k ∧ wr = w.drewN q ∧ ∀ j, j < k → keeps d j = true)
    case atStart => exact ⟨1, 0, Nat.le_refl _, by omega, by omega, rfl, rfl, keeps_lt_one d⟩
    case round =>
      obtain ⟨k, q, hk1, hk, hg, rfl, rfl, hall⟩ := hrel
      by_cases hlt : k < d.size
      · obtain ⟨c1, f1⟩ := hH k hlt
        obtain ⟨c0, f0⟩ := hH (k - 1) (by omega)
        have e1 := (HE.out (w.drewN (q + 1)) (fun b _ => rfl) k (k - 1) hlt (by omega)).1
        have A : Aside (∀ j, j < k → keeps d j = true) := hall
        have HH : Aside (Holds enc w blk off d) := hH
        clear hall hH
        generalize hx : d[k]! = x at c1 e1
        generalize hy : d[k - 1]! = y at c0 e1
        have B : Aside (d[k]! = x ∧ d[k - 1]! = y) := ⟨hx, hy⟩
        clear hx hy
        by_cases hdup : x = y
        · subst hdup
          go_wp2_with fail
          go_region
          go_wp2
          clear c0 c1 f0 f1 e1
          go_loopg [3, 5] d.size (fun g s3 s5 wr => ∃ (kk k2 q2 : Nat) (dk : Array α), s3 = .int .i64 kk ∧ s5 = .int .i64 k2 ∧ 1 ≤ k2 ∧ k + k2 ≤ d.size ∧ d.size - (k + k2) ≤ g ∧ wr = putRow enc (Sort.ahead w q2) blk off dk ∧ CompInv d (k + k2) kk dk)
          case atStart => exact ⟨k, 1, q + 1, d, rfl, rfl, Nat.le_refl _, by omega, by omega, (putRow_self enc (Sort.ahead w (q + 1)) blk off d (holds_ahead enc w (q + 1) blk off d HH.out)).symm, CompInv.start A.out (keeps_neg (by omega) (by rw [B.out.1, B.out.2]))⟩
          case round =>
            obtain ⟨kk, k2, q2, dk, rfl, rfl, h1, hle, hg2, hwr, hI⟩ := hrel
            have hkk := hI.lt
            have hds := hI.size
            have hHk : Holds enc wr blk off dk := by rw [hwr]; exact holds_putRow enc _ blk off d dk (holds_ahead enc w q2 blk off d HH.out) hds
            have hel : Aside (∀ b, b ≠ blk → wr.heap[b]? = w.heap[b]?) := fun b hb => by rw [hwr]; exact heap_putRow_other enc w q2 blk off dk b hb
            have W2 : Aside (wr = putRow enc (Sort.ahead w q2) blk off dk) := hwr
            have I2 : Aside (CompInv d (k + k2) kk dk) := hI
            clear hwr
            by_cases hlt2 : k + k2 < d.size
            · obtain ⟨cm, _⟩ := hHk (k + k2) (by omega)
              obtain ⟨cp, _⟩ := hHk (k + k2 - 1) (by omega)
              obtain ⟨ck, fk⟩ := hHk kk (by omega)
              have e2 := (HE.out wr.drew hel.out (k + k2) (k + k2 - 1) hlt2 (by omega)).2
              rw [hI.high (k + k2) (by omega), show off + (k + k2) = off + k + k2 by omega] at cm
              rw [hI.high (k + k2 - 1) (by omega), show off + (k + k2 - 1) = off + k + (k2 - 1) by omega] at cp
              clear hHk hI
              generalize hu : d[k + k2]! = u at cm e2
              generalize hv : d[k + k2 - 1]! = v at cp e2
              generalize dk[kk]! = old at ck
              have C : Aside (d[k + k2]! = u ∧ d[k + k2 - 1]! = v) := ⟨hu, hv⟩
              clear hu hv
              by_cases huv : u = v
              · subst huv
                go_wp2_with fail
                go_region
                go_wp2
                go_roundg (d.size - (k + (k2 + 1)))
                case measure => omega
                case rel => exact ⟨kk, k2 + 1, q2 + 1, dk, rfl, by go_num, by omega, by omega, Nat.le_refl _, by rw [W2.out]; rfl, I2.out.skip (keeps_neg (by omega) (by rw [C.out.1, C.out.2]))⟩
              · go_wp2_with fail
                go_region
                go_wp2
                go_roundg (d.size - (k + (k2 + 1)))
                case measure => omega
                case rel => exact ⟨kk + 1, k2 + 1, q2 + 1, dk.setIfInBounds kk u, by go_num, by go_num, by omega, by omega, Nat.le_refl _, store_world enc (by omega) W2.out u, by have := I2.out.keep hlt2 (keeps_pos (by rw [C.out.1, C.out.2]; exact huv)); rwa [C.out.1] at this⟩
            · have hend : k + k2 = d.size := by omega
              have hcl : ∀ ty, (Builtin.clear_ #[50] ty #[.slice (some ⟨blk, off + kk, none⟩) (d.size - kk) (cap - kk)]).run Try.prog wr = .ok (.tuple #[]) (wr.setCells blk (off + kk) (List.replicate (d.size - kk) (enc zr))) :=
                fun ty => Lib.run_clear_slice wr _ _ ty _ Try.underlying50 HV.out (hO.cells zr) (hO zr) blk (off + kk) _ _ (by omega) (fun j hj => by rw [show off + kk + j = off + (kk + j) by omega, (hHk (kk + j) (by omega)).1]; rfl) (fun j hj => by rw [show off + kk + j = off + (kk + j) by omega]; exact (hHk (kk + j) (by omega)).2)
              clear hHk hI
              go_wp2
              go_ret
              have hI := I2.out
              rw [hend] at hI
              refine ⟨by rw [hI.len]; rfl, q2, ?_⟩
              rw [hI.len, ← hI.done zr, ← putRow_setCells enc _ blk off _ dk kk (by simp; omega), ← W2.out, List.map_replicate]
        · go_wp2_with fail
          go_region
          go_wp2
          go_roundg (d.size - (k + 1))
          case measure => omega
          case rel =>
            refine ⟨k + 1, q + 1, by omega, by omega, Nat.le_refl _, by go_num, rfl, fun j hj => ?_⟩
            by_cases e : j = k
            · subst e
              exact keeps_pos (by rw [B.out.1, B.out.2]; exact hdup)
            · exact A.out j (by omega)
      · have : k = d.size := by omega
        subst this
        have HH : Aside (Holds enc w blk off d) := hH
        clear hH
        go_wp2
        go_ret
        obtain ⟨e1, e2⟩ := HS.out q hall
        exact ⟨by rw [e1]; rfl, q, e2⟩

end Go.Proofs.Qxb6612769a
