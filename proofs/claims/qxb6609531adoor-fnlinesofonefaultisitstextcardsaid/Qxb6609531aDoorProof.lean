/-
  THE PROOF of the row, and of the tied card 'Rows.FnLinesOfOneFaultIsItsTextCardSaid'.
-/
import Derived.Test.Qxb6609531aDoorWalksF
import Derived.Test.Qxb6609531aDoorCards
import Derived.Test.Qxb6609531aDoorTie
import Derived.ProofKit
import Derived.OpenShut
import Derived.ShutString
import Derived.ChangeOld
import Derived.LaidLaws
import Derived.LaidHandle
import Derived.Stop.Joined
import Derived.SevenTiedAt
namespace Go.Proofs.Qxb6609531aDoor
open Go.ChangeShapes Go.WideShapes Go.ChangeAt Go.RowKit
open Go.ChangeMaps (open_string shut_string)

theorem own : ownKnob Tryd.prog.godebug = none := by kernel_rfl
theorem laidOut : laidOutB Tryd.prog = true := by kernel_rfl
theorem gErr : Tryd.prog.globalNamed "errors.errorType" = some 0 := by kernel_rfl
theorem oneRow : ((List.range 107).filter fun t => Tryd.prog.rowNamed t [101, 114, 114, 111, 114]) = [38] := by kernel_rfl
theorem typesSize : Tryd.prog.types.size = 107 := by kernel_rfl

/-- WHAT THE CONDITION GIVES THE WALK: the variable's one cell. -/
theorem handle_of_laid {W : World} (h : laidMetH Tryd.prog Rows.fnLinesOfOneFaultIsItsTextRow.laid W) : W.cell? ⟨0, 0, none⟩ = some (.iface 56 (.agg #[.pointer (some ⟨2, 38, none⟩)])) := by
  have h' : laidMet Tryd.prog [] W ∧ handlesMet Tryd.prog Rows.fnLinesOfOneFaultIsItsTextRow.laid W := h
  obtain ⟨name, u, ty, e1, e2, e3, e4, e5⟩ := h'.2 _ (List.mem_singleton.2 rfl)
  have en : name = [101, 114, 114, 111, 114] := (Option.some.inj e1).symm
  subst en
  obtain rfl : u = 56 := Option.some.inj (e2.symm.trans (by kernel_rfl))
  have hm : ty ∈ (List.range 107).filter fun t => Tryd.prog.rowNamed t [101, 114, 114, 111, 114] := List.mem_filter.2 ⟨List.mem_range.2 (by rw [← typesSize]; exact e3), e4⟩
  rw [oneRow] at hm
  obtain rfl := List.mem_singleton.1 hm
  have hh : typeHandle Tryd.prog 38 = .pointer (some ⟨2, 38, none⟩) := by kernel_rfl
  rw [hh] at e5
  simpa using World.var?_cell gErr e5 0

/-- The variable's cell laid. -/
def layErr : Obj → Obj
  | .cells _ t fr => .cells #[.iface 56 (.agg #[.pointer (some ⟨2, 38, none⟩)])] t fr
  | o => o
/-- A world with the variable's cell laid. -/
def laidFrom (w0 : World) : World := { w0 with heap := w0.heap.modify 0 layErr }

theorem laidWorld_met (os : Os) (args : Array Value) : laidMetH Tryd.prog Rows.fnLinesOfOneFaultIsItsTextRow.laid ((laidFrom (World.holding Tryd.prog os ⟨#[], #[], []⟩)).forCall (fun _ _ => 0) ⟨#[], args, []⟩).memory :=
  laidMetH_of_parts (laidMet_nil _ _) (by kernel_rfl)

/-- The law's walk at every input. -/
theorem law_all (p m : ByteArray) (hp : p.size ≤ maxLen) (hm : m.size ≤ maxLen) (w : World) (hE : w.cell? ⟨0, 0, none⟩ = some (.iface 56 (.agg #[.pointer (some ⟨2, 38, none⟩)]))) :
    Calls Tryd.prog 3 #[.string p, .string m] w fun e w' => e = .returned (.bool true) ∧ Below w.heap.size w w' := by
  by_cases h : p.size + m.size ≤ 1048576
  · exact law_yes p m h w hE
  · exact law_no p m hp hm h w

set_option maxRecDepth 100000 in
theorem law_lifted (os : Os) (started : os.Started) (H : Type) (enc : TypeId × Value → H) :
    ReturnsInHanded {} Tryd.checked os 3 .any (fun w args => (Rows.fnLinesOfOneFaultIsItsTextSpec.pre enc Tryd.prog Tryd.f3 [] false w args ∧ laidMetH Tryd.prog Rows.fnLinesOfOneFaultIsItsTextRow.laid w) ∧ sizedMet enc Tryd.prog Tryd.f3 (OpenSpec.ofChange Rows.fnLinesOfOneFaultIsItsTextSpec) false w args)
      (Rows.fnLinesOfOneFaultIsItsTextSpec.post enc Tryd.prog Tryd.f3 false true false false) := by
  refine returnsInHanded_of_change_and (C := Tryd.checked) (X := fun w _ => laidMetH Tryd.prog Rows.fnLinesOfOneFaultIsItsTextRow.laid w) (fun _ _ _ hh h => h.of_heap hh) own started (by kernel_rfl) Tryd.func3
    (ChangeSpec.witness_at (enc := enc) (C := Tryd.checked) (os := os) (X := fun w _ => laidMetH Tryd.prog Rows.fnLinesOfOneFaultIsItsTextRow.laid w) false (laidFrom (World.holding Tryd.prog os ⟨#[], #[], []⟩)) #[.string ByteArray.empty, .string ByteArray.empty] 8 rfl (by kernel_rfl) (by kernel_rfl) (by kernel_rfl) (by kernel_rfl) (by kernel_rfl) (laidWorld_met os _)) ?_
  intro W base args ds gs before hval0 hW _ _ hL _
  have hval : ∀ (j : Nat) t v, Tryd.f3.params[j]? = some t → args[j]? = some v → Value.okWide Tryd.prog W .any base t v := hval0
  have hW' := hW
  obtain ⟨p, q, hA0, hV, rfl, hfz, hnd⟩ := hW
  have hA : DataW.TrodAll enc Tryd.prog W 0 (fun _ => true) true Tryd.f3.params.toList args.toList ds p := hA0
  rw [Tryd.params3] at hA hval
  obtain ⟨v0, vs0, d0, ds0, p0, q0, hargs, rfl, rfl, h0, r0⟩ := trodAll_cons hA
  obtain ⟨v1, vs1, d1, ds1, p1, q1, rfl, rfl, rfl, h1, r1⟩ := trodAll_cons r0
  obtain ⟨rfl, rfl, rfl⟩ := trodAll_nil r1
  obtain rfl : args = #[v0, v1] := by cases args; simp_all
  obtain ⟨rfl, rfl⟩ := trodVars_none hV
  obtain ⟨a0, rfl, rfl, rfl, w0⟩ := open_string Tryd.underlying9 (hval 0 9 v0 rfl rfl) h0
  obtain ⟨a1, rfl, rfl, rfl, w1⟩ := open_string Tryd.underlying9 (hval 1 9 v1 rfl rfl) h1
  have hE := handle_of_laid hL
  clear hA0 hval0
  simp only [List.append_nil] at hW'
  refine (law_all a0 a1 w0 w1 W hE).mono fun e W' ⟨he, bel⟩ => ?_
  subst he
  exact ⟨_, rfl, _, _, _, [], [], [], hW', trodAll_mk1 (shut_bool Tryd.underlying4 _), (trodAll_cons_mk (shut_string Tryd.underlying9 w0) (trodAll_cons_mk (shut_string Tryd.underlying9 w1) trodAll_mk0)), rfl, bel.frame _, fun h => by cases h⟩

theorem row_holds : Rows.FnLinesOfOneFaultIsItsTextSaid :=
  OpenClaim.holds_of_wide 3 Tryd.f3 rfl rfl rfl rfl rfl rfl rfl ⟨rfl, rfl, rfl, rfl, rfl⟩ rfl rfl rfl rfl rfl (by kernel_rfl) Tryd.func3 (by kernel_rfl)
    (of_decide_eq_true (by kernel_rfl)) (by unfold Func.isWrapper; first | (rw [if_pos (by decide +kernel)]; kernel_rfl) | (rw [if_neg (by decide +kernel)]; exact ⟨rfl, rfl⟩))
    (fun os started H enc _ => law_lifted os started H enc)

/-- THE CARD -/
theorem card_holds : Rows.FnLinesOfOneFaultIsItsTextCardSaid :=
  Claim7.holds_tied_plain_at .later [] [.handle] true (true, "a6a8f5428a62fba429374c92a31d1dc135dc6548a2986fb92a0e39a735e7fba8") true
    row_holds (fun _ h => by cases h) (by kernel_rfl) (fun _ h => by cases h) fnLinesOfOneFaultIsItsText_row_tie rfl ⟨rfl, rfl⟩ (by kernel_rfl) rfl
    (fun f fn hf hfn => by
      obtain rfl : f = 3 := Option.some.inj ((show Tryd.prog.funcNamed Rows.fnLinesOfOneFaultIsItsTextRow.func = some 3 by kernel_rfl).symm.trans hf) |>.symm
      obtain rfl : fn = Tryd.f3 := (Option.some.inj (Tryd.func3.symm.trans hfn)).symm
      exact ⟨by kernel_rfl, fun j t ht => by
        rw [Tryd.params3] at ht
        have hm : t ∈ [9, 9] := by simpa using Array.mem_of_getElem? ht
        have hall : ([9, 9].all fun u => !Tryd.prog.wantsStandIn u) = true := by kernel_rfl
        exact (show Tryd.prog.wantsStandIn t = false by simpa using List.all_eq_true.1 hall t hm)⟩)
    (by kernel_rfl)

end Go.Proofs.Qxb6609531aDoor
