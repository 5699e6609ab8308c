/-
  AN ID (an array of 20 bytes, by value) OPENED: its 20 numbers.
-/
import Derived.Test.Qxb6609523aWalksB
import Derived.ProofKit
import Derived.OpenShut
import Derived.ShutString
import Derived.ChangeOld
import Derived.Below
namespace Go.Proofs.Qxb6609523a
open Go.ChangeShapes Go.WideShapes Go.ChangeAt Go.RowKit

theorem own : ownKnob Try.prog.godebug = none := by kernel_rfl
theorem laidOut : laidOutB Try.prog = true := by kernel_rfl
theorem cells26 : Try.prog.cellsOf 26 = 20 := by kernel_rfl
theorem cells5 : Try.prog.cellsOf 5 = 1 := by kernel_rfl

theorem open_id {H : Type} {enc : TypeId × Value → H} {W : World} {base : Nat} {v : Value} {d : DataW H} {p : List MemPlace}
    (hv : Value.okWide Try.prog W .any base 26 v) (h : DataW.Trod enc Try.prog W 0 (fun _ => true) true 26 v d p) :
    ∃ zs : List Int, v = .agg (cellsId zs) ∧ zs.length = 20 ∧ ∀ i, i < 20 → 0 ≤ zs.getD i 0 ∧ zs.getD i 0 < 256 := by
  obtain ⟨cs, rfl, hsz, _⟩ : ∃ cs, v = .agg cs ∧ cs.size = Try.prog.cellsOf 26 ∧ Row.okWide Try.prog W .any base 26 cs := by
    simpa [Value.okWide, Try.underlying26] using hv
  rw [cells26] at hsz
  obtain ⟨fuel, hf⟩ := h
  obtain ⟨ys, m, _, _, _, hl, hy⟩ := DataW.trod_array Try.underlying26 hf
  have hat : ∀ i, i < 20 → ∃ n : Int, cs[i]? = some (.int .u8 n) ∧ 0 ≤ n ∧ n < 256 := fun i hi => by
    have e := hy i hi
    rw [cells5, List.getElem?_eq_getElem (by omega)] at e
    obtain ⟨n, hn, _, hw⟩ := DataW.trod_int Try.underlying5 e
    refine ⟨n, ?_, ?_⟩
    · simp only [Value.cells, Nat.mul_one] at hn
      have e0 : (List.take 1 (cs.toList.drop i))[0]? = some (.int .u8 n) := by rw [hn]; rfl
      simpa using e0
    · have := bounds_u8 hw
      omega
  refine ⟨(List.range 20).map fun i => RowKit.intOf (cs.getD i undef), ?_, by simp, ?_⟩
  · congr 1
    apply Array.ext_getElem?
    intro i
    by_cases hi : i < 20
    · obtain ⟨n, hn, _⟩ := hat i hi
      rw [cellsId_at _ i (by simpa using hi), hn]
      simp [hi, hn, RowKit.intOf, List.getD]
    · rw [Array.getElem?_eq_none (by omega), Array.getElem?_eq_none (by simp [cellsId]; omega)]
  · intro i hi
    obtain ⟨n, hn, h0, h1⟩ := hat i hi
    have : ((List.range 20).map fun i => RowKit.intOf (cs.getD i undef)).getD i 0 = n := by simp [hi, hn, RowKit.intOf, List.getD]
    rw [this]
    exact ⟨h0, h1⟩

end Go.Proofs.Qxb6609523a
