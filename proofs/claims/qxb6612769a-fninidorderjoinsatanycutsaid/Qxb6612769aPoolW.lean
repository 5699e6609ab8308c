/-
  ZZinIDOrder of seat b6612769a: the walk.
-/
import Derived.Test.Qxb6612769aPool
namespace Go.Proofs.Qxb6612769a
open Go.RowKit
open Go.ChangeMaps (setBlock)

set_option maxHeartbeats 1000000 in
/-- inIDOrder at the empty list. -/
theorem order_none (blk cap : Nat) (w : World) : Calls Try.prog 23 #[.slice (some ⟨blk, 0, none⟩) 0 cap] w fun e w' => e = .returned (.slice (some ⟨blk, 0, none⟩) 0 cap) ∧ w.grownBy w' (some blk) := by
  have hs : Calls Try.prog 29 #[.slice (some ⟨blk, 0, none⟩) 0 cap, .func (.func 30) #[] #[]] w fun e w' => e = .returned (.tuple #[]) ∧ w' = w := AnyF.slices_SortFunc_none { Try.sortF with } (some ⟨blk, 0, none⟩) cap (.func (.func 30) #[] #[]) w
  have hc : Calls Try.prog 32 #[.slice (some ⟨blk, 0, none⟩) 0 cap] w fun e w' => e = .returned (.slice (some ⟨blk, 0, none⟩) 0 cap) ∧ w.grownBy w' (some blk) :=
    (compact_at (encP 0) (encP_one 0) (encP_guard 0) none rfl blk 0 cap (#[] : Array (Option Nat)) w (fun _ _ i _ hi => absurd hi (Nat.not_lt_zero i)) (fun j hj => absurd hj (Nat.not_lt_zero j)) (by simp) (by simp)).mono
      fun e w' ⟨he, q, hw⟩ => ⟨he, by rw [hw]; exact grown_putRow (encP 0) w blk 0 q _⟩
  go_enter Try.func23, Try.ntmps23
  go_wp2_with (first
    | (go_at_call 29; refine hs.mono ?_; rintro e w1 ⟨rfl, hw1⟩; subst w1)
    | (go_at_call 32; refine hc.mono ?_; rintro e w2 ⟨rfl, hg⟩))
  go_ret
  exact ⟨rfl, hg⟩

/-- inIDOrder at the row of picks, whatever they are. -/
theorem order_all {ids : List Int} {n P : Nat} {ps : List Nat} {w wr : World} (h : BsAt ids n ps ps.length P w wr) (hps : ∀ x, x ∈ ps → x < n) (hinj : Inj ids n) (hm : ps.length ≤ 16384) :
    Calls Try.prog 23 #[.slice (some ⟨P + 2 + n, 0, none⟩) ps.length ps.length] wr fun e w' => ∃ l, IsOrd ids ps l ∧ e = .returned (.slice (some ⟨P + 2 + n, 0, none⟩) l.length ps.length) ∧
      (∀ i, i < l.length → w'.cell? ⟨P + 2 + n, i, none⟩ = some (ptr (P + 2) (l.getD i 0))) ∧ wr.grownBy w' (some (P + 2 + n)) := by
  by_cases hn : 0 < n
  · exact order_any hn hps hinj h.txns (fun j hj => by omega) (h.holds hps) (by rw [h.size]; omega) hm (Nat.le_refl _)
  · have hnil : ps = [] := by
      cases ps with
      | nil => rfl
      | cons a t => exact absurd (hps a (by simp)) (by omega)
    subst hnil
    exact (order_none (P + 2 + n) 0 wr).mono fun e w' ⟨he, hg⟩ => ⟨[], ⟨List.Pairwise.nil, fun x => Iff.rfl⟩, he, fun i hi => absurd hi (Nat.not_lt_zero i), hg⟩

set_option maxHeartbeats 2000000 in
set_option maxRecDepth 20000 in
theorem inOrder_any (a0 a1 : Option Addr) (n c0 c1 : Nat) (ids : List Int) (ps : List Nat) (d0 d1 : Nat → Addr) (w : World) (hn : n ≤ 16384) (hm : ps.length ≤ 16384)
    (h0 : RowAt 22 .u64 w a0 n c0 ids d0) (h1 : RowAt 23 .i64 w a1 ps.length c1 (natInts ps) d1) (hps : ∀ x, x ∈ ps → x < n) (hinj : Inj ids n) :
    Calls Try.prog 9 #[.slice a0 n c0, .slice a1 ps.length c1] w fun e w' => ∃ l g, IsOrd ids ps l ∧ e = .returned (.slice (some ⟨g, 0, none⟩) l.length l.length) ∧
      (∀ i, i < l.length → w'.cell? ⟨g, i, none⟩ = some (.int .i64 ((l.getD i 0 : Nat) : Int))) ∧ Below w.heap.size w w' := by
  have I0 : Hid (∀ i : Nat, i < n → ∀ W : World, (Instr.indexAt 22 (.slice a0 n c0) (.int .i64 (i : Int))).run Try.prog W = .ok (.pointer (some (d0 i))) W) := h0.idx
  have C0 : Hid (∀ i : Nat, i < n → w.cell? (d0 i) = some (.int .u64 (idAt ids i))) := h0.cell
  have hmk := make50 n hn
  have hmm := run_makeMap_some 51 52 3 Try.underlying51 n
  go_enter Try.func9, Try.ntmps9
  go_wp2
  go_loopw [7] (fun vj wr => ∃ k : Nat, k ≤ n ∧ vj = .int .i64 k ∧ Hid (PoolAt ids n k w.heap.size w wr)) (fun vj _ => n - (intOf vj).toNat)
  case atStart => exact ⟨0, Nat.zero_le _, rfl, PoolAt.start ids n w⟩
  case round =>
    obtain ⟨k, hk, rfl, hp⟩ := hrel
    by_cases hlt : k < n
    · have f1 := I0.out k hlt
      have f2 : wr.cell? (d0 k) = some (.int .u64 (idAt ids k)) := by rw [hp.out.below.cell (block_lt_of_cell (C0.out k hlt))]; exact C0.out k hlt
      obtain ⟨x, hx⟩ : ∃ x, x = idAt ids k := ⟨_, rfl⟩
      rw [← hx] at f2
      have g1 : wr.cell? ⟨w.heap.size, k, none⟩ = some (.pointer none) := by rw [hp.out.cell hlt, if_neg (Nat.lt_irrefl k)]
      have g2 : wr.frozen? ⟨w.heap.size, k, none⟩ = false := frozen_of_row _ _ _ _ _ hp.out.pool
      have hz : w.heap.size < wr.heap.size := by rw [hp.out.size]; omega
      have g3 := hp.out.put hlt hx
      unfold stepW at g3
      have HX : Hid (x = idAt ids k) := hx
      clear hx
      go_wp2
      go_roundw
      case rel => exact ⟨k + 1, by omega, by go_num, hp.out.step hlt HX.out⟩
      case measure => simp [intOf]; omega
    · obtain rfl : n = k := by omega
      have hmb := make50 ps.length hm
      have C1 : Hid (∀ i : Nat, i < ps.length → w.cell? (d1 i) = some (.int .i64 ((ps.getD i 0 : Nat) : Int))) := fun i hi => by rw [← natInts_at]; exact h1.cell i hi
      have I1 : Hid (∀ i : Nat, i < ps.length → ∀ W : World, (Instr.indexAt 23 (.slice a1 ps.length c1) (.int .i64 (i : Int))).run Try.prog W = .ok (.pointer (some (d1 i))) W) := h1.idx
      obtain ⟨wo, rfl⟩ : ∃ wo : World, wo = wr := ⟨_, rfl⟩
      go_wp2
      have HQ : Hid (wo.heap.size = w.heap.size + 2 + n) := hp.out.size
      rw [HQ.out]
      go_loopw [9] (fun vk wr => ∃ k : Nat, k ≤ ps.length ∧ vk = .int .i64 k ∧ Hid (BsAt ids n ps k w.heap.size w wr)) (fun vk _ => ps.length - (intOf vk).toNat)
      case atStart => exact ⟨0, Nat.zero_le _, rfl, BsAt.start hp.out⟩
      case round =>
        obtain ⟨k, hk, rfl, hq⟩ := hrel
        by_cases hlt2 : k < ps.length
        · have f1 := I1.out k hlt2
          have f2 : wr.cell? (d1 k) = some (.int .i64 ((ps.getD k 0 : Nat) : Int)) := by rw [hq.out.below.cell (block_lt_of_cell (C1.out k hlt2))]; exact C1.out k hlt2
          obtain ⟨p, hp'⟩ : ∃ p, p = ps.getD k 0 := ⟨_, rfl⟩
          have pn : p < n := by rw [hp']; exact hps _ (getD_mem hlt2)
          rw [← hp'] at f2
          have g0 := hq.out.poolCell pn
          have g1 := hq.out.bsCell hlt2
          rw [if_neg (Nat.lt_irrefl k)] at g1
          have g2 : wr.frozen? ⟨w.heap.size + 2 + n, k, none⟩ = false := frozen_of_row _ _ _ _ _ hq.out.bs
          unfold ptr at g0
          have HP : Hid (p = ps.getD k 0) := hp'
          clear hp'
          go_wp2
          go_roundw
          case rel => exact ⟨k + 1, by omega, by go_num, hq.out.step hlt2 (by rw [← HP.out]; rfl)⟩
          case measure => simp [intOf]; omega
        · obtain rfl : ps.length = k := by omega
          go_wp2_with fail
          refine (order_all hq.out hps hinj hm).mono ?_
          rintro e wx ⟨l, hl, rfl, hout, hg⟩
          have hll : l.length ≤ 16384 := Nat.le_trans (len_le l ps (asc_nodup hl.1) fun x hx => (hl.2 x).1 hx) hm
          have zx : w.heap.size + 2 + n + 1 ≤ wx.heap.size := by have := hg.size; rw [hq.out.size] at this; exact this
          have bx : Hid (Below w.heap.size w wx) := hq.out.below.grown hg (by rw [hq.out.size]; omega) (fun k hk => by cases hk; omega)
          have mx : Hid (wx.heap[w.heap.size + 1]? = some (.map (ptrEnts (w.heap.size + 2) n) n)) := by rw [hg.block _ (by rw [hq.out.size]; omega) (fun e => by have := Option.some.inj e; omega)]; exact hq.out.map
          have tx : Hid (Txns ids n (w.heap.size + 2) wx) := hq.out.txns.of_same fun j hj => hg.block _ (by rw [hq.out.size]; omega) (fun e => by have := Option.some.inj e; omega)
          have OX : Hid (∀ i, i < l.length → wx.cell? ⟨w.heap.size + 2 + n, i, none⟩ = some (ptr (w.heap.size + 2) (l.getD i 0))) := hout
          have HL : Hid (IsOrd ids ps l) := hl
          have hmr := make23 l.length hll
          clear hout hg hl hq hp HQ hmb hmk hmm hlt2 hk
          go_wp2
          go_loopw [12] (fun vk wr => ∃ k : Nat, k ≤ l.length ∧ vk = .int .i64 k ∧ Hid (ResAt ids n l k w.heap.size (w.heap.size + 2 + n) w wx wr)) (fun vk _ => l.length - (intOf vk).toNat)
          case atStart => exact ⟨0, Nat.zero_le _, rfl, ResAt.start bx.out (by omega) mx.out tx.out OX.out⟩
          case round =>
            obtain ⟨k, hk, rfl, hr⟩ := hrel
            by_cases hlt3 : k < l.length
            · obtain ⟨p, hp⟩ : ∃ p, p = l.getD k 0 := ⟨_, rfl⟩
              have pn : p < n := by rw [hp]; exact hps _ ((HL.out.2 _).1 (getD_mem hlt3))
              have g0 := hr.out.out k hlt3
              rw [← hp] at g0
              have g1 := hr.out.cell hlt3
              rw [if_neg (Nat.lt_irrefl k)] at g1
              have g2 : wr.frozen? ⟨wx.heap.size, k, none⟩ = false := frozen_of_row _ _ _ _ _ hr.out.res
              have g3 := look_ptr hr.out.map pn (fun j hj => by obtain ⟨c, hc, _⟩ := hr.out.txns j hj; exact ⟨c, hc⟩)
              unfold ptr at g0 g3
              have HP : Hid (p = l.getD k 0) := hp
              clear hp
              go_wp2
              go_roundw
              case rel => exact ⟨k + 1, by omega, by go_num, hr.out.step hlt3 (by omega) (by omega) (by omega) (fun j hj => by omega) (by rw [← HP.out])⟩
              case measure => simp [intOf]; omega
            · obtain rfl : l.length = k := by omega
              go_wp2
              go_ret
              exact ⟨l, wx.heap.size, HL.out, rfl, fun i hi => by rw [hr.out.cell hi, if_pos hi], hr.out.below⟩
end Go.Proofs.Qxb6612769a
