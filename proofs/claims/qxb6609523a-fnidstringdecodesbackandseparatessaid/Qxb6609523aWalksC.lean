/-
  THE WALKS of seat b6609523a, third part: the law on the digits of ID.String.
-/
import Derived.Test.Qxb6609523aWalksB
namespace Go.Proofs.Qxb6609523a
open Go.RowKit Go.Lib

theorem info26' : (Try.prog.info? 26).map (·.size) = some 20 := by kernel_rfl
theorem info26 (xs : List Int) (h20 : xs.length = 20) : (Try.prog.info? 26).map (·.size) = some (cellsId xs).size := by
  have e : (cellsId xs).size = 20 := by simp [cellsId, h20]
  rw [e, info26']

set_option maxHeartbeats 1000000 in
theorem lower_walk (xs : List Int) (h20 : xs.length = 20) (hr : ∀ i, i < 20 → 0 ≤ xs.getD i 0 ∧ xs.getD i 0 < 256) (w : World) :
    Calls Try.prog 4 #[.agg (cellsId xs)] w fun e w' => e = .returned (.bool true) ∧ Below w.heap.size w w' := by
  obtain ⟨s, hs⟩ : ∃ s, s = hexStr xs := ⟨_, rfl⟩
  have hsz : s.size = 40 := by rw [hs, hexStr_size, h20]
  have hc : Hid (∀ i, i < 20 → (w.alloc (.cells (cellsId xs) 26)).cell? ⟨w.heap.size, i, none⟩ = some (.int .u8 (xs.getD i 0))) := fun i hi => by
    rw [World.cell?_alloc_new, cellsId_at xs i (by omega)]
  have HI : Hid ((Try.prog.info? 26).map (·.size) = some (cellsId xs).size) := info26 xs h20
  have HS : Hid (s = hexStr xs) := hs
  have HR : Hid (∀ i, i < 20 → 0 ≤ xs.getD i 0 ∧ xs.getD i 0 < 256) := hr
  have H20 : Hid (xs.length = 20) := h20
  clear hs hr h20
  go_enter Try.func4, Try.ntmps4
  go_wp2_with (first
    | (refine wpList_load_row rfl 26 _ rfl w.heap.size rfl 26 (cellsId xs) (0, 0) _ (heap_alloc_new w _) Try.underlying26 rfl HI.out ?_)
    | (go_at_call 13; refine (string_any xs H20.out HR.out _).mono ?_; rintro e w1 ⟨rfl, hb⟩; rw [← HS.out]))
  have HB : Hid (Below (w.heap.size + 1) (w.alloc (.cells (cellsId xs) 26)) w1) := (show Below (w.heap.size + 1) (w.alloc (.cells (cellsId xs) 26)) w1 by simpa using hb)
  clear hb
  go_loopw [4] (fun i wr => ∃ k : Nat, k ≤ 20 ∧ i = .int .i64 k ∧ Hid (Below (w.heap.size + 1) (w.alloc (.cells (cellsId xs) 26)) wr)) (fun i _ => 20 - (RowKit.intOf i).toNat)
  case atStart => exact ⟨0, by omega, rfl, HB⟩
  case round =>
    obtain ⟨k, hk, rfl, hbr⟩ := hrel
    by_cases hlt : k < 20
    · have hck : wr.cell? ⟨w.heap.size, k, none⟩ = some (.int .u8 (xs.getD k 0)) := (hbr.out.cell (p := ⟨w.heap.size, k, none⟩) (by simp)).trans (hc.out k hlt)
      obtain ⟨x, hx⟩ : ∃ x, x = xs.getD k 0 := ⟨_, rfl⟩
      have hxr := HR.out k hlt
      rw [← hx] at hck hxr
      obtain ⟨x0, x1⟩ := hxr
      have hhi : ∀ h : 2 * k < s.size, ((s[2 * k]'h).toNat : Int) = hexd (x / 16) := by rw [hx, HS.out]; exact hexStr_hi xs k (by rw [H20.out]; exact hlt) (HR.out k hlt)
      have hlo : ∀ h : 2 * k + 1 < s.size, ((s[2 * k + 1]'h).toNat : Int) = hexd (x % 16) := by rw [hx, HS.out]; exact hexStr_lo xs k (by rw [H20.out]; exact hlt) (HR.out k hlt)
      have HX : Hid (x = xs.getD k 0) := hx
      clear hx
      have hw2 : IntKind.i64.wrap (2 * (k : Int)) = 2 * (k : Int) := by rw [IntKind.wrap_i64]; omega
      have hw3 : IntKind.i64.wrap (2 * (k : Int) + 1) = 2 * (k : Int) + 1 := by rw [IntKind.wrap_i64]; omega
      have hp3 : 0 ≤ 2 * (k : Int) + 1 := by omega
      have hand := u8_and15 x x0 x1
      have hm0 : 0 ≤ x % 16 := by omega
      have hm1 : x % 16 < 16 := by omega
      have hn2 : (2 * (k : Int)).toNat = 2 * k := by omega
      have hn3 : (2 * (k : Int) + 1).toNat = 2 * k + 1 := by omega
      have hb2 : 2 * (k : Int) < 40 := by omega
      have hb3 : 2 * (k : Int) + 1 < 40 := by omega
      go_wp2
      go_quiet ((go_at_call 14; exact Calls.quiet_of_same (digit_any (x / 16) (by omega) (by omega) _)))
      go_wp2
      have hbr2 : Hid (Below (w.heap.size + 1) (w.alloc (.cells (cellsId xs) 26)) (wr.drewN nq)) := below_drewN hbr.out _
      have hck2 : (wr.drewN nq).cell? ⟨w.heap.size, k, none⟩ = some (.int .u8 x) := hck
      generalize wr.drewN nq = wr2 at hbr2 hck2 ⊢
      go_quiet ((go_at_call 14; exact Calls.quiet_of_same (digit_any (x % 16) hm0 hm1 _)))
      go_wp2
      go_roundw
      case rel => exact ⟨k + 1, by omega, by go_num, below_drewN hbr2.out _⟩
      case measure => simp [RowKit.intOf]; omega
    · go_wp2
      go_ret
      exact ⟨rfl, ((Below.refl _ _).alloc (Nat.le_refl _) _).trans (hbr.out.mono (by omega))⟩
end Go.Proofs.Qxb6609523a
