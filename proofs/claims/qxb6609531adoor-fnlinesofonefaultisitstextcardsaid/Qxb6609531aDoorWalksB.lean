/-
  THE WALKS of seat b6609531aD, second part: the line that the law itself builds.
-/
import Derived.Test.Qxb6609531aDoorWalksA
import Derived.Lib.AppendStr
import Derived.Laws.IdiomStrings
import Derived.Deep.CutRange
import Derived.Deep.DeepMust
namespace Go.Proofs.Qxb6609531aDoor
open Go.RowKit Go.Lib

theorem info5 : ∃ i, Tryd.prog.info? 5 = some i ∧ i.zero = some (.int .u8 0) ∧ i.size = 1 ∧ i.bytes = 1 := by
  have h : ((Tryd.prog.info? 5).map fun i => (i.zero, i.size, i.bytes)) = some (some (Value.int IntKind.u8 0), 1, 1) := by kernel_rfl
  cases e : Tryd.prog.info? 5 with
  | none => rw [e] at h; simp at h
  | some i =>
    rw [e] at h
    simp at h
    exact ⟨i, rfl, h.1, h.2.1, h.2.2⟩

theorem shown_size (p : ByteArray) : (shown p).size ≤ p.size + 1 := by
  unfold shown; split
  · show 1 ≤ _; omega
  · omega

/-- The bytes of a fault's line. -/
theorem line_cells (p m : ByteArray) : strCells (shown p) ++ [.int .u8 58, .int .u8 32] ++ strCells m = strCells (line p m) := by
  have e : (line p m).data = (shown p).data ++ #[58, 32] ++ m.data := by simp [line]
  simp [strCells, e]

theorem line_size (p m : ByteArray) : (line p m).size = (shown p).size + 2 + m.size := by
  simp only [line, ByteArray.size_append]
  rfl

theorem two_new (w : World) (a b : Value) : ∀ j u, [a, b][j]? = some u → (w.alloc (.cells #[a, b] 5)).cell? ((⟨w.heap.size, 0, none⟩ : Addr).add j) = some u := by
  intro j u h
  rw [Addr.add_lit, World.cell?_alloc_new, Nat.zero_add]
  simpa using h

theorem two_one : ∀ u ∈ [Value.int .u8 58, Value.int .u8 32], u.oneCell' = true := by
  intro u hu
  simp at hu
  rcases hu with rfl | rfl <;> rfl

set_option maxHeartbeats 1000000 in
theorem append_any (p m : ByteArray) (w : World) (hp : p.size + m.size ≤ 1048576) :
    Calls Tryd.prog 5 #[.slice none 0 0, .agg #[.string p, .string m]] w fun e w' => ∃ v, e = .returned v ∧
      w'.ownsRow (w.heap.size + 1) 5 1 v (line p m).size (strCells (line p m)) ∧ Below w.heap.size w w' := by
  obtain ⟨i5, hi, hz, hs, hby⟩ := info5
  have hsp := shown_size p
  have q1 : 0 + (shown p).size ≤ maxLen := by unfold maxLen; omega
  have q2 : 0 + (shown p).size ≤ 140737488355328 := by omega
  have q3 : 0 + (shown p).size + 2 ≤ maxLen := by unfold maxLen; omega
  have q4 : (0 + (shown p).size + 2) * 1 ≤ 140737488355328 := by omega
  have q5 : 0 + (shown p).size + 2 + m.size ≤ maxLen := by unfold maxLen; omega
  have q6 : 0 + (shown p).size + 2 + m.size ≤ 140737488355328 := by omega
  have HI : Hid (Tryd.prog.info? 5 = some i5) := hi
  have HZ : Hid (i5.zero = some (.int .u8 0)) := hz
  have HS : Hid (i5.size = 1) := hs
  have HY : Hid (i5.bytes = 1) := hby
  clear hi hz hs hby hp hsp
  go_enter Tryd.func5, Tryd.ntmps5
  go_upto_region 2 with (first
    | (go_at_call 8; refine (shown_any _ _).mono ?_; rintro e w' ⟨rfl, rfl⟩)
    | (at_builtin; refine wpList_append_own_string _ rfl _ _ 23 9 rfl (w.heap.size + 1) 5 i5 Tryd.underlying23 Tryd.underlying9 HI.out HZ.out HS.out HY.out (.slice none 0 0) 0 [] rfl (World.ownsRow_nil _ _ _ _) (shown p) rfl q1 q2 (by simp) ?_; intro v1 w1 ho1 hg1 _))
  have z1 : w.heap.size + 1 ≤ w1.heap.size := by have := hg1.size; simpa using this
  have O1 : Hid (w1.ownsRow (w.heap.size + 1) 5 1 v1 (0 + (shown p).size) ([] ++ strCells (shown p))) := ho1
  have B1 : Hid (Below (w.heap.size + 1) (w.alloc (.cells #[.string p, .string m] 26)) w1) := (Below.refl _ _).grown hg1 (by simp) (fun k hk => by cases hk)
  have hb0 : w.heap.size + 1 ≤ (w1.alloc (.cells #[.int .u8 58, .int .u8 32] 5)).heap.size := by simp; omega
  clear ho1 hg1
  go_upto_region 3 with (first
    | (at_builtin; refine wpList_append_own _ rfl _ _ 23 rfl (w.heap.size + 1) 5 i5 (.int .u8 0) 1 1 Tryd.underlying23 HI.out HZ.out HS.out HY.out rfl (by decide) v1 (0 + (shown p).size) ([] ++ strCells (shown p)) rfl (O1.out.alloc _) ⟨w1.heap.size, 0, none⟩ 2 2 [.int .u8 58, .int .u8 32] rfl rfl (two_new w1 _ _) two_one q3 q4 hb0 ?_; intro v2 w2 ho2 hg2 _))
  have z2 : w.heap.size + 1 ≤ w2.heap.size := by have := hg2.size; simp at this; omega
  have O2 : Hid (w2.ownsRow (w.heap.size + 1) 5 1 v2 (0 + (shown p).size + 2) ([] ++ strCells (shown p) ++ [.int .u8 58, .int .u8 32])) := ho2
  have B2 : Hid (Below (w.heap.size + 1) (w.alloc (.cells #[.string p, .string m] 26)) w2) := (B1.out.alloc (by omega) _).grown hg2 (by simp; omega) (fun k hk => (O1.out.lt k hk).1)
  have hcm : w2.cell? ⟨w.heap.size, 1, none⟩ = some (.string m) := (B2.out.cell (p := ⟨w.heap.size, 1, none⟩) (by simp)).trans (by rw [World.cell?_alloc_new]; rfl)
  clear ho2 hg2
  go_wp2_with (first
    | (at_builtin; refine wpList_append_own_string _ rfl _ _ 23 9 rfl (w.heap.size + 1) 5 i5 Tryd.underlying23 Tryd.underlying9 HI.out HZ.out HS.out HY.out v2 (0 + (shown p).size + 2) ([] ++ strCells (shown p) ++ [.int .u8 58, .int .u8 32]) rfl O2.out m rfl q5 q6 z2 ?_; intro v3 w3 ho3 hg3 _))
  go_ret
  refine ⟨v3, rfl, ?_, ((Below.refl _ _).alloc (Nat.le_refl _) _).trans ((B2.out.grown hg3 z2 (fun k hk => (O2.out.lt k hk).1)).mono (by omega))⟩
  rw [line_size, ← line_cells]
  simpa using ho3

end Go.Proofs.Qxb6609531aDoor
