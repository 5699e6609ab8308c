/-
  THE WALKS of seat b6609523a, fourth part: the strict decoder.
-/
import Derived.Test.Qxb6609523aWalksC
import Derived.Laws.CopyOwn
namespace Go.Proofs.Qxb6609523a
open Go.RowKit Go.Lib

/-- What the decoder's array holds when k bytes have been read. -/
def part (xs : List Int) (k : Nat) : List Int := xs.take k ++ List.replicate (20 - k) 0

theorem or_halves (x : Int) (h0 : 0 ≤ x) (h1 : x < 256) : bits .or .u8 (x / 16 * 16) (x % 16) = x := by
  rw [u8_or _ _ (by omega) (by omega) (by omega) (by omega)]
  have e : ∀ n : Fin 256, (n.val / 16 * 16) ||| (n.val % 16) = n.val := by decide +kernel
  have := e ⟨x.toNat, by omega⟩
  have e1 : (x / 16 * 16).toNat = x.toNat / 16 * 16 := by omega
  have e2 : (x % 16).toNat = x.toNat % 16 := by omega
  rw [e1, e2]
  simp only at this
  rw [this]
  omega

def zeros : Array Value := cellsId (List.replicate 20 0)

theorem part_length (xs : List Int) (h20 : xs.length = 20) (k : Nat) (hk : k ≤ 20) : (part xs k).length = 20 := by simp [part, h20]; omega

theorem part_step (xs : List Int) (h20 : xs.length = 20) (k : Nat) (hk : k < 20) : (part xs k).set k (xs.getD k 0) = part xs (k + 1) := by
  apply List.ext_getElem?
  intro i
  simp only [part, List.getElem?_set, List.getElem?_append, List.length_append, List.length_take, List.length_replicate, List.getElem?_take, List.getElem?_replicate, List.getD]
  by_cases h1 : k = i
  · subst h1
    simp [h20, hk, show min k 20 = k by omega, show min (k + 1) 20 = k + 1 by omega, show k < k + (20 - k) by omega]
  · by_cases h2 : i < k
    · simp [h1, h20, h2, show min k 20 = k by omega, show min (k + 1) 20 = k + 1 by omega, show i < k + 1 by omega]
    · simp [h1, h20, h2, show min k 20 = k by omega, show min (k + 1) 20 = k + 1 by omega, show ¬ i < k + 1 by omega]
      congr 1
      apply propext
      omega

theorem cells_step (xs : List Int) (h20 : xs.length = 20) (k : Nat) (hk : k < 20) : (cellsId (part xs k)).setIfInBounds k (.int .u8 (xs.getD k 0)) = cellsId (part xs (k + 1)) := by
  rw [← part_step xs h20 k hk]
  simp [cellsId, List.map_set]

theorem part_all (xs : List Int) (h20 : xs.length = 20) : part xs 20 = xs := by
  simp [part, List.take_of_length_le (Nat.le_of_eq h20)]

set_option maxHeartbeats 1000000 in
theorem decode_walk (xs : List Int) (h20 : xs.length = 20) (hr : ∀ i, i < 20 → 0 ≤ xs.getD i 0 ∧ xs.getD i 0 < 256) (w : World) :
    Calls Try.prog 15 #[.string (hexStr xs)] w fun e w' => e = .returned (.tuple #[.agg (cellsId xs), .bool true]) ∧ Below w.heap.size w w' := by
  obtain ⟨s, hs⟩ : ∃ s, s = hexStr xs := ⟨_, rfl⟩
  have hsz : s.size = 40 := by rw [hs, hexStr_size, h20]
  rw [← hs]
  have HI : Hid ((Try.prog.info? 26).map (·.size) = some (cellsId xs).size) := info26 xs h20
  have HS : Hid (s = hexStr xs) := hs
  have HR : Hid (∀ i, i < 20 → 0 ≤ xs.getD i 0 ∧ xs.getD i 0 < 256) := hr
  have H20 : Hid (xs.length = 20) := h20
  clear hs hr h20
  go_enter Try.func15, Try.ntmps15
  go_wp2
  go_loopw [5] (fun i wr => ∃ k : Nat, k ≤ 20 ∧ i = .int .i64 k ∧ wr = (w.alloc (.cells zeros 26)).alloc (.cells (cellsId (part xs k)) 26)) (fun i _ => 20 - (RowKit.intOf i).toNat)
  case atStart => exact ⟨0, by omega, rfl, rfl⟩
  case round =>
    obtain ⟨k, hk, rfl, rfl⟩ := hrel
    by_cases hlt : k < 20
    · obtain ⟨x, hx⟩ : ∃ x, x = xs.getD k 0 := ⟨_, rfl⟩
      have hxr := HR.out k hlt
      rw [← hx] at hxr
      obtain ⟨x0, x1⟩ := hxr
      have hhi : ∀ h : 2 * k < s.size, ((s[2 * k]'h).toNat : Int) = hexd (x / 16) := by rw [hx, HS.out]; exact hexStr_hi xs k (by rw [H20.out]; exact hlt) (HR.out k hlt)
      have hlo : ∀ h : 2 * k + 1 < s.size, ((s[2 * k + 1]'h).toNat : Int) = hexd (x % 16) := by rw [hx, HS.out]; exact hexStr_lo xs k (by rw [H20.out]; exact hlt) (HR.out k hlt)
      have HC : Hid ((cellsId (part xs k)).setIfInBounds k (.int .u8 x) = cellsId (part xs (k + 1))) := by rw [hx]; exact cells_step xs H20.out k hlt
      have hck : (cellsId (part xs k))[k]? = some (.int .u8 ((part xs k).getD k 0)) := cellsId_at _ k (by rw [part_length xs H20.out k hk]; exact hlt)
      have HX : Hid (x = xs.getD k 0) := hx
      clear hx
      have hw2 : IntKind.i64.wrap (2 * (k : Int)) = 2 * (k : Int) := by rw [IntKind.wrap_i64]; omega
      have hw3 : IntKind.i64.wrap (2 * (k : Int) + 1) = 2 * (k : Int) + 1 := by rw [IntKind.wrap_i64]; omega
      have hp3 : 0 ≤ 2 * (k : Int) + 1 := by omega
      have hm0 : 0 ≤ x % 16 := by omega
      have hm1 : x % 16 < 16 := by omega
      have hd0 : 0 ≤ x / 16 := by omega
      have hd1 : x / 16 < 16 := by omega
      have hn2 : (2 * (k : Int)).toNat = 2 * k := by omega
      have hn3 : (2 * (k : Int) + 1).toNat = 2 * k + 1 := by omega
      have hb2 : 2 * (k : Int) < 40 := by omega
      have hb3 : 2 * (k : Int) + 1 < 40 := by omega
      generalize cellsId (part xs k) = C at hck HC ⊢
      generalize (part xs k).getD k 0 = old at hck
      have tok : True := trivial
      go_wp2_with (first
        | (go_at_call 19; have _t := tok; refine (value_any (x / 16) hd0 hd1 _).mono ?_; rintro e w' ⟨rfl, rfl⟩; clear tok)
        | (go_at_call 19; refine (value_any (x % 16) hm0 hm1 _).mono ?_; rintro e w' ⟨rfl, rfl⟩))
      go_roundw
      case rel => exact ⟨k + 1, by omega, by go_num, by rw [← HC.out, or_halves x x0 x1]⟩
      case measure => simp [RowKit.intOf]; omega
    · obtain rfl : k = 20 := by omega
      rw [part_all xs H20.out]
      have hold : zeros.size = (cellsId xs).size := by simp [zeros, cellsId, H20.out]
      have hall : (cellsId xs).all (·.oneCell') = true := by simp [cellsId, Value.oneCell']
      clear hk hlt
      go_wp2_with (first
        | (refine wpList_load_row rfl 26 _ rfl (w.heap.size + 1) rfl 26 (cellsId xs) (0, 0) _ (heap_alloc2_new w _ _) Try.underlying26 rfl HI.out ?_)
        | (refine wpList_store_row rfl 26 _ _ rfl w.heap.size (cellsId xs) rfl rfl 26 zeros (heap_alloc2_old w _ _) HI.out hold hall ?_))
      have hrow : (((w.alloc (.cells zeros 26)).alloc (.cells (cellsId xs) 26)).setRow w.heap.size (cellsId xs)).heap[w.heap.size]? = some (.cells (cellsId xs) 26 (0, 0)) := setRow_heap _ _ zeros _ 26 _ (heap_alloc2_old w _ _)
      refine bodyPost_ret (v := .tuple #[.agg (cellsId xs), .bool true]) ?_ rfl ⟨rfl, below_setRow (((Below.refl _ _).alloc (Nat.le_refl _) _).alloc (by simp) _) (Nat.le_refl _) _⟩
      rw [results_cell_tmp Try.results15]
      simp [asAddr, run_loadVar_row _ w.heap.size 26 26 (cellsId xs) (0, 0) _ hrow Try.underlying26 rfl HI.out, Result.andThen]
end Go.Proofs.Qxb6609523a
