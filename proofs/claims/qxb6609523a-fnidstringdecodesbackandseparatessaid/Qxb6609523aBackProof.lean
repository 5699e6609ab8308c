/-
  THE PROOF of 'Rows.FnIDStringDecodesBackAndSeparatesSaid'.
-/
import Derived.Test.Qxb6609523aWalksE
import Derived.Test.Qxb6609523aOpen
namespace Go.Proofs.Qxb6609523a
open Go.ChangeShapes Go.WideShapes Go.ChangeAt Go.RowKit

/-- The law's walk at every pair of IDs. -/
theorem back_all (xs ys : List Int) (h20 : xs.length = 20) (k20 : ys.length = 20) (hr : ∀ i, i < 20 → 0 ≤ xs.getD i 0 ∧ xs.getD i 0 < 256) (kr : ∀ i, i < 20 → 0 ≤ ys.getD i 0 ∧ ys.getD i 0 < 256) (w : World) :
    Calls Try.prog 5 #[.agg (cellsId xs), .agg (cellsId ys)] w fun e w' => e = .returned (.bool true) ∧ Below w.heap.size w w' := by
  refine back_walk xs ys h20 k20 hr kr w (decide (xs = ys)) ?_ rfl
  rw [Bool.eq_iff_iff, beq_iff_eq, decide_eq_true_iff]
  constructor
  · intro h
    rw [ByteArray.toList_eq, ByteArray.toList_eq] at h
    apply hexStr_inj xs ys h20 k20 hr kr
    have : (hexStr xs).data = (hexStr ys).data := Array.toList_inj.1 h
    exact congrArg ByteArray.mk this
  · rintro rfl
    rfl

set_option maxRecDepth 100000 in
theorem back_lifted (os : Os) (started : os.Started) (H : Type) (enc : TypeId × Value → H) :
    ReturnsInHanded {} Try.checked os 5 .any (Rows.fnIDStringDecodesBackAndSeparatesSpec.pre6 enc Try.prog Try.f5 Rows.fnIDStringDecodesBackAndSeparatesRow.domain false) (Rows.fnIDStringDecodesBackAndSeparatesSpec.post enc Try.prog Try.f5 false true false false) := by
  refine returnsInHanded_of_change (C := Try.checked) own started (by kernel_rfl) Try.func5
    (ChangeSpec.witness6 (enc := enc) (C := Try.checked) false ⟨#[], #[.agg #[.int .u8 0, .int .u8 0, .int .u8 0, .int .u8 0, .int .u8 0, .int .u8 0, .int .u8 0, .int .u8 0, .int .u8 0, .int .u8 0, .int .u8 0, .int .u8 0, .int .u8 0, .int .u8 0, .int .u8 0, .int .u8 0, .int .u8 0, .int .u8 0, .int .u8 0, .int .u8 0], .agg #[.int .u8 0, .int .u8 0, .int .u8 0, .int .u8 0, .int .u8 0, .int .u8 0, .int .u8 0, .int .u8 0, .int .u8 0, .int .u8 0, .int .u8 0, .int .u8 0, .int .u8 0, .int .u8 0, .int .u8 0, .int .u8 0, .int .u8 0, .int .u8 0, .int .u8 0, .int .u8 0]], []⟩ 8 (by kernel_rfl) (by kernel_rfl) (by kernel_rfl) (by kernel_rfl)) ?_
  intro W base args ds gs before hval0 hW hcnd _
  have hval : ∀ (j : Nat) t v, Try.f5.params[j]? = some t → args[j]? = some v → Value.okWide Try.prog W .any base t v := hval0
  have hW' := hW
  obtain ⟨p, q, hA0, hV, rfl, hfz, hnd⟩ := hW
  have hA : DataW.TrodAll enc Try.prog W 0 (fun _ => true) true Try.f5.params.toList args.toList ds p := hA0
  rw [Try.params5] at hA hval
  obtain ⟨v0, vs0, d0, ds0, p0, q0, hargs, rfl, rfl, h0, r0⟩ := trodAll_cons hA
  obtain ⟨v1, vs1, d1, ds1, p1, q1, rfl, rfl, rfl, h1, r1⟩ := trodAll_cons r0
  obtain ⟨rfl, rfl, rfl⟩ := trodAll_nil r1
  obtain rfl : args = #[v0, v1] := by cases args; simp_all
  obtain ⟨rfl, rfl⟩ := trodVars_none hV
  have k0 := h0
  have lt0 : ∀ x ∈ p0, x.block < W.heap.size := by obtain ⟨m, hm⟩ := k0; exact DataW.trod_lt m _ _ _ hm
  have k1 := h1
  have lt1 : ∀ x ∈ p1, x.block < W.heap.size := by obtain ⟨m, hm⟩ := k1; exact DataW.trod_lt m _ _ _ hm
  obtain ⟨xs, rfl, hl, hr⟩ := open_id (hval 0 26 v0 rfl rfl) h0
  obtain ⟨ys, rfl, kl, kr⟩ := open_id (hval 1 26 v1 rfl rfl) h1
  clear hA0 hval0
  refine (back_all xs ys hl kl hr kr W).mono fun e W' ⟨he, bel⟩ => ?_
  subst he
  exact ⟨_, rfl, _, _, _, [], _, [], hW', trodAll_mk1 (shut_bool Try.underlying4 _), (trodAll_cons_mk (Below.trod laidOut (by kernel_rfl) (of_decide_eq_true (by kernel_rfl)) k0 bel lt0) (trodAll_cons_mk (Below.trod laidOut (by kernel_rfl) (of_decide_eq_true (by kernel_rfl)) k1 bel lt1) trodAll_mk0)), rfl, bel.frame _, fun h => by cases h⟩

theorem back_over : Rows.fnIDStringDecodesBackAndSeparatesRow.holds Try.pinned (OpenSpec.ofChange Rows.fnIDStringDecodesBackAndSeparatesSpec) :=
  OpenClaim.holds_of_wide 5 Try.f5 rfl rfl rfl rfl rfl rfl rfl ⟨rfl, rfl, rfl, rfl, rfl⟩ rfl rfl rfl rfl rfl (by kernel_rfl) Try.func5 (by kernel_rfl)
    (of_decide_eq_true (by kernel_rfl)) (by unfold Func.isWrapper; first | (rw [if_pos (by decide +kernel)]; kernel_rfl) | (rw [if_neg (by decide +kernel)]; exact ⟨rfl, rfl⟩))
    (fun os started H enc _ => back_lifted os started H enc)

/-- THE STATEMENT -/
theorem back_proved : Rows.FnIDStringDecodesBackAndSeparatesSaid := back_over
end Go.Proofs.Qxb6609523a
