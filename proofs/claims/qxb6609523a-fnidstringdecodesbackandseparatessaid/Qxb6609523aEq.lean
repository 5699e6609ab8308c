/-
  '==' BETWEEN TWO IDs; the text of an ID tells the ID.
-/
import Derived.Test.Qxb6609523aWalksD
import Derived.ChangeKeysEq
namespace Go.Proofs.Qxb6609523a
open Go.RowKit Go.Lib

theorem plain5 : Try.prog.plainKey 5 = true := by kernel_rfl
theorem cellsOf5 : Try.prog.cellsOf 5 = 1 := by kernel_rfl
theorem some5 : ∃ i, Try.prog.info? 5 = some i := by
  have h : (Try.prog.info? 5).isSome = true := by kernel_rfl
  exact Option.isSome_iff_exists.1 h

theorem eqItems (xs ys : List Int) (w : World) : ∀ is : List Nat, (∀ i ∈ is, i < xs.length ∧ i < ys.length) →
    (Op.eqItems 9999 5 1 (cellsId xs) (cellsId ys) is).run Try.prog w = .ok (is.all fun i => xs.getD i 0 == ys.getD i 0) w
  | [], _ => by simp [Op.eqItems]
  | i :: is, h => by
    obtain ⟨h1, h2⟩ := h i (by simp)
    have p1 := run_part_plain (P := Try.prog) w plain5 (off := i * 1) (by rw [Nat.mul_one]; exact cellsId_at xs i h1)
    have p2 := run_part_plain (P := Try.prog) w plain5 (off := i * 1) (by rw [Nat.mul_one]; exact cellsId_at ys i h2)
    have p3 := run_equalIn_int (P := Try.prog) w 9998 5 .u8 .u8 (xs.getD i 0) (ys.getD i 0) Try.underlying5
    have ih := eqItems xs ys w is (fun j hj => h j (by simp [hj]))
    simp only [Op.eqItems, Sem.run_bind, p1, p2, p3, Result.andThen_ok, List.all_cons]
    cases e : (xs.getD i 0 == ys.getD i 0)
    · simp
    · simpa using ih

theorem eq_all (xs ys : List Int) (hx : xs.length = 20) (hy : ys.length = 20) : ((List.range 20).all fun i => xs.getD i 0 == ys.getD i 0) = decide (xs = ys) := by
  rw [Bool.eq_iff_iff, List.all_eq_true, decide_eq_true_iff]
  constructor
  · intro h
    apply List.ext_getElem (by omega)
    intro i h1 h2
    have := h i (List.mem_range.2 (by omega))
    rw [beq_iff_eq, List.getD_eq_getElem?_getD, List.getD_eq_getElem?_getD, List.getElem?_eq_getElem h1, List.getElem?_eq_getElem h2] at this
    exact this
  · rintro rfl i _
    simp

/-- '==' on two IDs. -/
theorem run_eqId (xs ys : List Int) (hx : xs.length = 20) (hy : ys.length = 20) (w : World) :
    (Op.equalIn 10000 26 (.agg (cellsId xs)) (.agg (cellsId ys))).run Try.prog w = .ok (decide (xs = ys)) w := by
  obtain ⟨i, hi⟩ := some5
  rw [show (10000 : Nat) = 9999 + 1 from rfl, run_equalIn_array w 9999 (cellsId xs) (cellsId ys) Try.underlying26 hi, cellsOf5,
    eqItems xs ys w (List.range 20) (fun j hj => by have := List.mem_range.1 hj; omega), eq_all xs ys hx hy]

theorem hexd_inj (a b : Int) (a0 : 0 ≤ a) (a1 : a < 16) (b0 : 0 ≤ b) (b1 : b < 16) (h : hexd a = hexd b) : a = b := by
  unfold hexd at h
  split at h <;> split at h <;> omega

theorem hexStr_inj (xs ys : List Int) (hx : xs.length = 20) (hy : ys.length = 20) (rx : ∀ i, i < 20 → 0 ≤ xs.getD i 0 ∧ xs.getD i 0 < 256) (ry : ∀ i, i < 20 → 0 ≤ ys.getD i 0 ∧ ys.getD i 0 < 256)
    (h : hexStr xs = hexStr ys) : xs = ys := by
  have e := eq_all xs ys hx hy
  have : ((List.range 20).all fun i => xs.getD i 0 == ys.getD i 0) = true := by
    rw [List.all_eq_true]
    intro i hi
    have hi := List.mem_range.1 hi
    have s1 : (hexStr xs).size = 40 := by rw [hexStr_size, hx]
    have s2 : (hexStr ys).size = 40 := by rw [hexStr_size, hy]
    have a1 := hexStr_hi xs i (by omega) (rx i hi) (by omega)
    have a2 := hexStr_lo xs i (by omega) (rx i hi) (by omega)
    have b1 := hexStr_hi ys i (by omega) (ry i hi) (by omega)
    have b2 := hexStr_lo ys i (by omega) (ry i hi) (by omega)
    have c1 : hexd (xs.getD i 0 / 16) = hexd (ys.getD i 0 / 16) := by rw [← a1, ← b1]; simp only [h]
    have c2 : hexd (xs.getD i 0 % 16) = hexd (ys.getD i 0 % 16) := by rw [← a2, ← b2]; simp only [h]
    have := rx i hi
    have := ry i hi
    have d1 := hexd_inj _ _ (by omega) (by omega) (by omega) (by omega) c1
    have d2 := hexd_inj _ _ (by omega) (by omega) (by omega) (by omega) c2
    rw [beq_iff_eq]
    omega
  rw [e] at this
  exact of_decide_eq_true this

end Go.Proofs.Qxb6609523a
