/-
  THE WALKS of seat b6612769a, fourth part: zzMergeByID.
-/
import Derived.Test.Qxb6612769aWalksC
import Derived.Deep.CutRange
import Derived.Deep.DeepMust
import Derived.Maps.AppendAt
namespace Go.Proofs.Qxb6612769a
open Go.RowKit

/-- A row of places of the pool. -/
def natInts (l : List Nat) : List Int := l.map fun (n : Nat) => (n : Int)
def natCells (l : List Nat) : List Value := l.map fun (n : Nat) => .int .i64 (n : Int)

theorem natInts_at (l : List Nat) (i : Nat) : (natInts l).getD i 0 = ((l.getD i 0 : Nat) : Int) := by
  simp only [natInts, List.getD_eq_getElem?_getD, List.getElem?_map]
  cases l[i]? <;> rfl
theorem natInts_length (l : List Nat) : (natInts l).length = l.length := by simp [natInts]
theorem natCells_length (l : List Nat) : (natCells l).length = l.length := by simp [natCells]
theorem natCells_snoc (l : List Nat) (x : Nat) : natCells l ++ [.int .i64 (x : Int)] = natCells (l ++ [x]) := by simp [natCells]

theorem inPool_nats {l : List Nat} {n : Nat} (h : ∀ x, x ∈ l → x < n) : inPool (natInts l) (n : Int) = true := by
  apply List.all_eq_true.2
  intro x hx
  obtain ⟨y, hy, rfl⟩ := List.mem_map.1 hx
  have := h y hy
  simp; omega

theorem getD_mem {l : List Nat} {i : Nat} (h : i < l.length) : l.getD i 0 ∈ l := by
  rw [List.getD_eq_getElem?_getD, List.getElem?_eq_getElem h]; exact List.getElem_mem h

theorem info3 : ∃ i, Try.prog.info? 3 = some i ∧ i.zero = some (.int .i64 0) ∧ i.size = 1 ∧ i.bytes = 8 := by
  have h : ((Try.prog.info? 3).map fun i => (i.zero, i.size, i.bytes)) = some (some (Value.int IntKind.i64 0), 1, 8) := by kernel_rfl
  cases e : Try.prog.info? 3 with
  | none => rw [e] at h; simp at h
  | some i =>
    rw [e] at h
    simp at h
    exact ⟨i, rfl, h.1, h.2.1, h.2.2⟩

theorem one_one (x : Int) : ∀ u ∈ [Value.int .i64 x], u.oneCell' = true := by
  intro u hu
  simp at hu
  subst hu; rfl

set_option maxHeartbeats 2000000 in
set_option maxRecDepth 20000 in
/-- zzMergeByID at two ascending lists of places. -/
theorem merge_any (a0 a1 a2 : Option Addr) (n c0 c1 c2 : Nat) (ids : List Int) (A B : List Nat) (d0 d1 d2 : Nat → Addr) (w : World) (_hn : n ≤ 16384) (hA : A.length ≤ 16384) (hB : B.length ≤ 16384)
    (h0 : RowAt 22 .u64 w a0 n c0 ids d0) (h1 : RowAt 23 .i64 w a1 A.length c1 (natInts A) d1) (h2 : RowAt 23 .i64 w a2 B.length c2 (natInts B) d2)
    (mA : ∀ x, x ∈ A → x < n) (mB : ∀ x, x ∈ B → x < n) (hinj : Inj ids n) (sA : Asc ids A) (sB : Asc ids B) :
    Calls Try.prog 10 #[.slice a0 n c0, .slice a1 A.length c1, .slice a2 B.length c2] w fun e w' => ∃ v out, e = .returned (.tuple #[v, .bool true]) ∧ w'.ownsRow w.heap.size 3 1 v out.length (natCells out) ∧
      (Asc ids out ∧ ∀ x, x ∈ out ↔ x ∈ A ∨ x ∈ B) ∧ out.length ≤ A.length + B.length ∧ Below w.heap.size w w' := by
  obtain ⟨i3, hi3, hz3, hs3, hy3⟩ := info3
  have I0 : Hid (∀ i : Nat, i < n → ∀ W : World, (Instr.indexAt 22 (.slice a0 n c0) (.int .i64 (i : Int))).run Try.prog W = .ok (.pointer (some (d0 i))) W) := h0.idx
  have I1 : Hid (∀ i : Nat, i < A.length → ∀ W : World, (Instr.indexAt 23 (.slice a1 A.length c1) (.int .i64 (i : Int))).run Try.prog W = .ok (.pointer (some (d1 i))) W) := h1.idx
  have I2 : Hid (∀ i : Nat, i < B.length → ∀ W : World, (Instr.indexAt 23 (.slice a2 B.length c2) (.int .i64 (i : Int))).run Try.prog W = .ok (.pointer (some (d2 i))) W) := h2.idx
  have C0 : Hid (∀ i : Nat, i < n → w.cell? (d0 i) = some (.int .u64 (idAt ids i))) := h0.cell
  have C1 : Hid (∀ i : Nat, i < A.length → w.cell? (d1 i) = some (.int .i64 ((A.getD i 0 : Nat) : Int))) := fun i hi => by rw [← natInts_at]; exact h1.cell i hi
  have C2 : Hid (∀ i : Nat, i < B.length → w.cell? (d2 i) = some (.int .i64 ((B.getD i 0 : Nat) : Int))) := fun i hi => by rw [← natInts_at]; exact h2.cell i hi
  have K1 : Hid (RowAt 23 .i64 w a1 A.length c1 (natInts A) d1) := h1
  have K2 : Hid (RowAt 23 .i64 w a2 B.length c2 (natInts B) d2) := h2
  have P1 : Hid (inPool (natInts A) (n : Int) = true) := inPool_nats mA
  have P2 : Hid (inPool (natInts B) (n : Int) = true) := inPool_nats mB
  have MA : Hid (∀ x, x ∈ A → x < n) := mA
  have MB : Hid (∀ x, x ∈ B → x < n) := mB
  have HJ : Hid (Inj ids n) := hinj
  have SA : Hid (Asc ids A) := sA
  have SB : Hid (Asc ids B) := sB
  have HI3 : Hid (Try.prog.info? 3 = some i3) := hi3
  have HZ3 : Hid (i3.zero = some (.int .i64 0)) := hz3
  have HS3 : Hid (i3.size = 1) := hs3
  have HY3 : Hid (i3.bytes = 8) := hy3
  have q1 : A.length ≤ maxLen := by unfold maxLen; omega
  have q2 : B.length ≤ maxLen := by unfold maxLen; omega
  have q3 : i3.bytes * (A.length + B.length) ≤ 281474976710656 := by rw [hy3]; omega
  have q4 : A.length + B.length ≤ maxLen := by unfold maxLen; omega
  have Q3 : Hid (i3.bytes * (A.length + B.length) ≤ 281474976710656) := q3
  have tok1 : True := trivial
  clear h0 h1 h2 mA mB hinj sA sB hi3 hz3 hs3 hy3 q3
  go_enter Try.func10, Try.ntmps10
  go_wp2_with (first
    | (go_at_call 7; have _t := tok1; refine (picks_any a1 A.length c1 _ d1 n _ q1 K1.out).mono ?_; rintro e wq ⟨rfl, hwq⟩; subst wq; rw [P1.out]; clear tok1)
    | (go_at_call 7; refine (picks_any a2 B.length c2 _ d2 n _ q2 K2.out).mono ?_; rintro e wq ⟨rfl, hwq⟩; subst wq; rw [P2.out])
    | (at_make; refine wpList_make_own _ rfl _ _ 23 rfl w.heap.size 3 i3 (.int .i64 0) 1 Try.underlying23 HI3.out HZ3.out HS3.out .i64 .i64 _ (A.length + B.length) rfl rfl (by omega) Q3.out q4 (Nat.le_refl _) ?_; intro w1 ho1 hg1))
  have O1 : Hid (w1.ownsRow w.heap.size 3 1 (.slice (some ⟨w.heap.size, 0, none⟩) 0 (A.length + B.length)) 0 []) := ho1
  have B1 : Hid (Below w.heap.size w w1) := (Below.refl _ _).grown hg1 (Nat.le_refl _) (fun k hk => by cases hk)
  clear ho1 hg1 P1 P2 K1 K2
  go_loopw [8, 9, 10] (fun v8 vi vj wr => ∃ (i j : Nat) (out : List Nat), i ≤ A.length ∧ j ≤ B.length ∧ vi = .int .i64 i ∧ vj = .int .i64 j ∧ Hid (wr.ownsRow w.heap.size 3 1 v8 out.length (natCells out)) ∧ Hid (Below w.heap.size w wr) ∧ Hid (MergeInv ids A B i j out) ∧ out.length ≤ i + j)
    (fun _ vi vj _ => A.length + B.length - ((intOf vi).toNat + (intOf vj).toNat))
  case atStart => exact ⟨0, 0, [], Nat.zero_le _, Nat.zero_le _, rfl, rfl, O1.out, B1.out, MergeInv.start ids A B, Nat.zero_le _⟩
  case round =>
    obtain ⟨i, j, out, hi, hj, rfl, rfl, ho, hb, hinv, hol⟩ := hrel
    have g1 : out.length + 1 ≤ maxLen := by unfold maxLen; omega
    have g2 : (out.length + 1) * 8 ≤ 140737488355328 := by omega
    have gz : w.heap.size ≤ wr.heap.size := hb.out.size
    have gb : ∀ o, w.heap.size ≤ (wr.alloc o).heap.size := fun o => by simp; omega
    have old : Hid (∀ a v, w.cell? a = some v → wr.cell? a = some v) := fun a v h => by rw [hb.out.cell (block_lt_of_cell h)]; exact h
    by_cases hi' : i < A.length
    · obtain ⟨p, hp⟩ : ∃ p, p = A.getD i 0 := ⟨_, rfl⟩
      have a1' := I1.out i hi'
      have a2' := old.out _ _ (C1.out i hi')
      have pn : p < n := by rw [hp]; exact MA.out _ (getD_mem hi')
      have a3' := I0.out p pn
      have a4' := old.out _ _ (C0.out p pn)
      rw [← hp] at a2'
      have HP : Hid (p = A.getD i 0) := hp
      clear hp
      by_cases hj' : j < B.length
      · obtain ⟨q, hq⟩ : ∃ q, q = B.getD j 0 := ⟨_, rfl⟩
        have b1' := I2.out j hj'
        have b2' := old.out _ _ (C2.out j hj')
        have qn : q < n := by rw [hq]; exact MB.out _ (getD_mem hj')
        have b3' := I0.out q qn
        have b4' := old.out _ _ (C0.out q qn)
        rw [← hq] at b2'
        have HQ : Hid (q = B.getD j 0) := hq
        clear hq
        obtain ⟨x, hx⟩ : ∃ x, x = idAt ids p := ⟨_, rfl⟩
        obtain ⟨y, hy⟩ : ∃ y, y = idAt ids q := ⟨_, rfl⟩
        rw [← hx] at a4'
        rw [← hy] at b4'
        have HX : Hid (x = idAt ids p) := hx
        have HY : Hid (y = idAt ids q) := hy
        clear hx hy
        have ca : ∀ o, (wr.alloc o).cell? (d1 i) = some (.int .i64 (p : Int)) := fun o => Go.Lib.cell?_alloc_some o a2'
        by_cases hxy : x < y
        · have hyx : ¬ y < x := by omega
          go_wp2_with (first | (at_builtin; refine wpList_append_own _ rfl _ _ 23 rfl w.heap.size 3 i3 (.int .i64 0) 1 8 Try.underlying23 HI3.out HZ3.out HS3.out HY3.out rfl (by decide) _ out.length (natCells out) rfl (ho.out.alloc _) ⟨wr.heap.size, 0, none⟩ 1 1 [.int .i64 (p : Int)] rfl rfl (cell_one_new _ _ _) (one_one _) g1 g2 (gb _) ?_; intro v' w' ho' hg' _))
          have BW : Below w.heap.size w w' := (hb.out.alloc gz _).grown hg' (gb _) (fun k hk => (ho.out.lt k hk).1)
          have OW : w'.ownsRow w.heap.size 3 1 v' (out ++ [p]).length (natCells (out ++ [p])) := by rw [← natCells_snoc, List.length_append]; exact ho'
          go_roundw
          case rel => exact ⟨i + 1, j, out ++ [p], by omega, by omega, by go_num, by go_num, OW, BW, by rw [HP.out]; exact hinv.out.takeA SA.out hi' (below_rest SB.out hj' (by rw [← HP.out, ← HQ.out, ← HX.out, ← HY.out]; exact hxy)), by rw [List.length_append, List.length_singleton]; omega⟩
          case measure => simp [intOf]; omega
        · by_cases hyx : y < x
          · go_wp2_with (first | (at_builtin; refine wpList_append_own _ rfl _ _ 23 rfl w.heap.size 3 i3 (.int .i64 0) 1 8 Try.underlying23 HI3.out HZ3.out HS3.out HY3.out rfl (by decide) _ out.length (natCells out) rfl (ho.out.alloc _) ⟨wr.heap.size, 0, none⟩ 1 1 [.int .i64 (q : Int)] rfl rfl (cell_one_new _ _ _) (one_one _) g1 g2 (gb _) ?_; intro v' w' ho' hg' _))
            have BW : Below w.heap.size w w' := (hb.out.alloc gz _).grown hg' (gb _) (fun k hk => (ho.out.lt k hk).1)
            have OW : w'.ownsRow w.heap.size 3 1 v' (out ++ [q]).length (natCells (out ++ [q])) := by rw [← natCells_snoc, List.length_append]; exact ho'
            go_roundw
            case rel => exact ⟨i, j + 1, out ++ [q], by omega, by omega, by go_num, by go_num, OW, BW, by rw [HQ.out]; exact hinv.out.takeB SB.out hj' (below_rest SA.out hi' (by rw [← HP.out, ← HQ.out, ← HX.out, ← HY.out]; exact hyx)), by rw [List.length_append, List.length_singleton]; omega⟩
            case measure => simp [intOf]; omega
          · go_wp2_with (first | (at_builtin; refine wpList_append_own _ rfl _ _ 23 rfl w.heap.size 3 i3 (.int .i64 0) 1 8 Try.underlying23 HI3.out HZ3.out HS3.out HY3.out rfl (by decide) _ out.length (natCells out) rfl (ho.out.alloc _) ⟨wr.heap.size, 0, none⟩ 1 1 [.int .i64 (p : Int)] rfl rfl (cell_one_new _ _ _) (one_one _) g1 g2 (gb _) ?_; intro v' w' ho' hg' _))
            have BW : Below w.heap.size w w' := (hb.out.alloc gz _).grown hg' (gb _) (fun k hk => (ho.out.lt k hk).1)
            have OW : w'.ownsRow w.heap.size 3 1 v' (out ++ [p]).length (natCells (out ++ [p])) := by rw [← natCells_snoc, List.length_append]; exact ho'
            go_roundw
            case rel => exact ⟨i + 1, j + 1, out ++ [p], by omega, by omega, by go_num, by go_num, OW, BW, by rw [HP.out]; exact hinv.out.takeBoth SA.out SB.out hi' hj' (by rw [← HP.out, ← HQ.out]; exact HJ.out p q pn qn (by rw [← HX.out, ← HY.out]; omega)), by rw [List.length_append, List.length_singleton]; omega⟩
            case measure => simp [intOf]; omega
      · go_wp2_with (first | (at_builtin; refine wpList_append_own _ rfl _ _ 23 rfl w.heap.size 3 i3 (.int .i64 0) 1 8 Try.underlying23 HI3.out HZ3.out HS3.out HY3.out rfl (by decide) _ out.length (natCells out) rfl (ho.out.alloc _) ⟨wr.heap.size, 0, none⟩ 1 1 [.int .i64 (p : Int)] rfl rfl (cell_one_new _ _ _) (one_one _) g1 g2 (gb _) ?_; intro v' w' ho' hg' _))
        have BW : Below w.heap.size w w' := (hb.out.alloc gz _).grown hg' (gb _) (fun k hk => (ho.out.lt k hk).1)
        have OW : w'.ownsRow w.heap.size 3 1 v' (out ++ [p]).length (natCells (out ++ [p])) := by rw [← natCells_snoc, List.length_append]; exact ho'
        go_roundw
        case rel => exact ⟨i + 1, j, out ++ [p], by omega, by omega, by go_num, by go_num, OW, BW, by rw [HP.out]; exact hinv.out.takeA SA.out hi' (fun y hy => by rw [List.drop_eq_nil_of_le (by omega)] at hy; cases hy), by rw [List.length_append, List.length_singleton]; omega⟩
        case measure => simp [intOf]; omega
    · by_cases hj' : j < B.length
      · obtain ⟨q, hq⟩ : ∃ q, q = B.getD j 0 := ⟨_, rfl⟩
        have b1' := I2.out j hj'
        have b2' := old.out _ _ (C2.out j hj')
        rw [← hq] at b2'
        have HQ : Hid (q = B.getD j 0) := hq
        clear hq
        go_wp2_with (first | (at_builtin; refine wpList_append_own _ rfl _ _ 23 rfl w.heap.size 3 i3 (.int .i64 0) 1 8 Try.underlying23 HI3.out HZ3.out HS3.out HY3.out rfl (by decide) _ out.length (natCells out) rfl (ho.out.alloc _) ⟨wr.heap.size, 0, none⟩ 1 1 [.int .i64 (q : Int)] rfl rfl (cell_one_new _ _ _) (one_one _) g1 g2 (gb _) ?_; intro v' w' ho' hg' _))
        have BW : Below w.heap.size w w' := (hb.out.alloc gz _).grown hg' (gb _) (fun k hk => (ho.out.lt k hk).1)
        have OW : w'.ownsRow w.heap.size 3 1 v' (out ++ [q]).length (natCells (out ++ [q])) := by rw [← natCells_snoc, List.length_append]; exact ho'
        go_roundw
        case rel => exact ⟨i, j + 1, out ++ [q], by omega, by omega, by go_num, by go_num, OW, BW, by rw [HQ.out]; exact hinv.out.takeB SB.out hj' (fun y hy => by rw [List.drop_eq_nil_of_le (by omega)] at hy; cases hy), by rw [List.length_append, List.length_singleton]; omega⟩
        case measure => simp [intOf]; omega
      · go_wp2
        go_ret2
        obtain rfl : i = A.length := by omega
        obtain rfl : j = B.length := by omega
        exact ⟨_, out, rfl, ho.out, hinv.out.done, hol, hb.out⟩

end Go.Proofs.Qxb6612769a
