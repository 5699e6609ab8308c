/-
  THE WALKS of seat b6609531aD, fifth part: Lines.
-/
import Derived.Test.Qxb6609531aDoorWalksD
import Derived.Deep.CutRange
namespace Go.Proofs.Qxb6609531aDoor
open Go.RowKit

theorem mError (a : Addr) (w : World) : (method 207 29 (.pointer (some a)) "Error").run Tryd.prog w = .ok (11, .pointer (some a)) w := by kernel_rfl

theorem later {w w1 : World} {o : Obj} {B : Nat} (hb : Below B (w.alloc o) w1) (hB : w.heap.size ≤ B) {a : Addr} {v : Value} (h : w.cell? a = some v) : w1.cell? a = some v := by
  have hl := block_lt_of_cell h
  rw [hb.cell (p := a) (by omega), World.cell?_alloc_lt _ _ _ hl]
  exact h

set_option maxHeartbeats 1000000 in
/-- Lines at a *Error. -/
theorem lines_err (p m : ByteArray) (b : Nat) (w : World) (hE : w.cell? ⟨0, 0, none⟩ = some (.iface 56 (.agg #[.pointer (some ⟨2, 38, none⟩)])))
    (h0 : w.cell? ⟨b, 0, none⟩ = some (.string p)) (h1 : w.cell? ⟨b, 1, none⟩ = some (.string m)) (hp : p.size + m.size ≤ 1048576) :
    Calls Tryd.prog 9 #[.iface 29 (.pointer (some ⟨b, 0, none⟩))] w fun e w' => ∃ g, e = .returned (.slice (some ⟨g, 0, none⟩) 1 1) ∧ w'.cell? ⟨g, 0, none⟩ = some (.string (line p m)) ∧ Below w.heap.size w w' := by
  have hz : 0 < w.heap.size := block_lt_of_cell hE
  have hb : b < w.heap.size := block_lt_of_cell h0
  have E1 : Hid (∀ o, (w.alloc o).cell? ⟨0, 0, none⟩ = some (.iface 56 (.agg #[.pointer (some ⟨2, 38, none⟩)]))) := fun o => by rw [World.cell?_alloc_lt _ _ _ hz]; exact hE
  have C0 : Hid (w.cell? ⟨b, 0, none⟩ = some (.string p)) := h0
  have C1 : Hid (w.cell? ⟨b, 1, none⟩ = some (.string m)) := h1
  have f1 := mError
  clear hE h0 h1
  go_enter Tryd.func9, Tryd.ntmps9
  go_wp2_with (first
    | (go_at_call 10; refine (As_no _ _ _ (E1.out _)).mono ?_; rintro e w1 ⟨rfl, hb1⟩; have HB : Hid (Below _ (w.alloc _) w1) := hb1; clear hb1)
    | (go_at_call 11; refine (error_any p m b _ (later HB.out (by simp) C0.out) (later HB.out (by simp) C1.out) hp).mono ?_; rintro e w' ⟨rfl, rfl⟩))
  go_ret
  exact ⟨_, rfl, by rw [World.cell?_alloc_new]; rfl, (((Below.refl _ _).alloc (Nat.le_refl _) _).trans (HB.out.mono (by simp))).alloc (by have := HB.out.size; simp at this; omega) _⟩

set_option maxHeartbeats 1000000 in
/-- Lines at a List of one *Error. -/
theorem lines_list (p m : ByteArray) (b l : Nat) (w : World) (hE : w.cell? ⟨0, 0, none⟩ = some (.iface 56 (.agg #[.pointer (some ⟨2, 38, none⟩)])))
    (h0 : w.cell? ⟨b, 0, none⟩ = some (.string p)) (h1 : w.cell? ⟨b, 1, none⟩ = some (.string m)) (hl : w.cell? ⟨l, 0, none⟩ = some (.pointer (some ⟨b, 0, none⟩))) (hp : p.size + m.size ≤ 1048576) :
    Calls Tryd.prog 9 #[.iface 34 (.slice (some ⟨l, 0, none⟩) 1 1)] w fun e w' => ∃ g, e = .returned (.slice (some ⟨g, 0, none⟩) 1 1) ∧ w'.cell? ⟨g, 0, none⟩ = some (.string (line p m)) ∧ Below w.heap.size w w' := by
  have hz : 0 < w.heap.size := block_lt_of_cell hE
  have hb : b < w.heap.size := block_lt_of_cell h0
  have hll : l < w.heap.size := block_lt_of_cell hl
  have E1 : Hid (∀ o, (w.alloc o).cell? ⟨0, 0, none⟩ = some (.iface 56 (.agg #[.pointer (some ⟨2, 38, none⟩)]))) := fun o => by rw [World.cell?_alloc_lt _ _ _ hz]; exact hE
  have C0 : Hid (w.cell? ⟨b, 0, none⟩ = some (.string p)) := h0
  have C1 : Hid (w.cell? ⟨b, 1, none⟩ = some (.string m)) := h1
  have C2 : Hid (w.cell? ⟨l, 0, none⟩ = some (.pointer (some ⟨b, 0, none⟩))) := hl
  have A1 : Hid ((w.alloc (.cells #[.slice none 0 0] 34)).cell? ⟨w.heap.size, 0, none⟩ = some (.slice none 0 0)) := by rw [World.cell?_alloc_new]; rfl
  have A2 : Hid ((w.alloc (.cells #[.slice none 0 0] 34)).frozen? ⟨w.heap.size, 0, none⟩ = false) := frozen_of_row _ _ _ _ _ (heap_alloc_new w _)
  have HM : Hid (∀ w : World, (Instr.makeSlice 27 (.int .i64 1) (.int .i64 1)).run Tryd.prog w = .ok (.slice (some ⟨w.heap.size, 0, none⟩) 1 1) (w.alloc (.cells #[.string ⟨#[]⟩] 9))) := fun _ => by kernel_rfl
  have hmk := HM.out
  clear hE h0 h1 hl
  go_enter Tryd.func9, Tryd.ntmps9
  go_upto_region 4 with (go_at_call 10; refine (As_yes (some ⟨l, 0, none⟩) 1 1 ⟨w.heap.size, 0, none⟩ (.slice none 0 0) _ (E1.out _) A1.out A2.out).mono ?_; rintro e w1 ⟨rfl, W, hW, rfl⟩)
  have x3 : (W.setCell ⟨w.heap.size, 0, none⟩ (.slice (some ⟨l, 0, none⟩) 1 1)).cell? ⟨w.heap.size, 0, none⟩ = some (.slice (some ⟨l, 0, none⟩) 1 1) :=
    World.cell?_setCell_same _ _ _ (u := .slice none 0 0) (by rw [hW.cell (p := ⟨w.heap.size, 0, none⟩) (by simp)]; exact A1.out)
  have xo : ∀ a : Addr, a.block < w.heap.size → ∀ v, w.cell? a = some v → (W.setCell ⟨w.heap.size, 0, none⟩ (.slice (some ⟨l, 0, none⟩) 1 1)).cell? a = some v := fun a ha v hv => by
    rw [World.cell?_setCell_other _ _ _ _ (fun e => by rw [← e] at ha; simp at ha)]
    exact later hW (by simp) hv
  have X0 := xo ⟨b, 0, none⟩ hb _ C0.out
  have X1 := xo ⟨b, 1, none⟩ hb _ C1.out
  have X2 := xo ⟨l, 0, none⟩ hll _ C2.out
  have BW : Below w.heap.size w (W.setCell ⟨w.heap.size, 0, none⟩ (.slice (some ⟨l, 0, none⟩) 1 1)) := (((Below.refl _ _).alloc (Nat.le_refl _) _).trans (hW.mono (by simp))).setCell (Nat.le_refl _) _
  have zx : w.heap.size + 1 ≤ (W.setCell ⟨w.heap.size, 0, none⟩ (.slice (some ⟨l, 0, none⟩) 1 1)).heap.size := by have := hW.size; simp at this ⊢; omega
  clear hW xo C0 C1 C2 A1 A2 E1 HM
  generalize W.setCell ⟨w.heap.size, 0, none⟩ (.slice (some ⟨l, 0, none⟩) 1 1) = wx at x3 X0 X1 X2 BW zx ⊢
  have X0' : Hid (∀ o, (wx.alloc o).cell? ⟨b, 0, none⟩ = some (.string p)) := fun o => by rw [World.cell?_alloc_lt _ _ _ (by simp; omega)]; exact X0
  have X1' : Hid (∀ o, (wx.alloc o).cell? ⟨b, 1, none⟩ = some (.string m)) := fun o => by rw [World.cell?_alloc_lt _ _ _ (by simp; omega)]; exact X1
  have X2' : ∀ o, (wx.alloc o).cell? ⟨l, 0, none⟩ = some (.pointer (some ⟨b, 0, none⟩)) := fun o => by rw [World.cell?_alloc_lt _ _ _ (by simp; omega)]; exact X2
  have x3' : ∀ o, (wx.alloc o).cell? ⟨w.heap.size, 0, none⟩ = some (.slice (some ⟨l, 0, none⟩) 1 1) := fun o => by rw [World.cell?_alloc_lt _ _ _ (by simp; omega)]; exact x3
  have HBW : Hid (Below w.heap.size w wx) := BW
  clear X0 X1 X2 BW
  go_wp2
  refine wp_loop_rounds 2 ?_
  rw [rounds_succ]
  go_wp2_with (go_at_call 11; refine (error_any p m b _ (X0'.out _) (X1'.out _) hp).mono ?_; rintro e w' ⟨rfl, rfl⟩)
  rw [rounds_succ]
  go_wp2
  go_ret
  exact ⟨_, rfl, by rw [World.cell?_alloc_new]; rfl, HBW.out.alloc (by omega) _⟩

set_option maxHeartbeats 400000 in
/-- ZZLinesOfError. -/
theorem linesOfError (p m : ByteArray) (b : Nat) (w : World) (hE : w.cell? ⟨0, 0, none⟩ = some (.iface 56 (.agg #[.pointer (some ⟨2, 38, none⟩)])))
    (h0 : w.cell? ⟨b, 0, none⟩ = some (.string p)) (h1 : w.cell? ⟨b, 1, none⟩ = some (.string m)) (hp : p.size + m.size ≤ 1048576) :
    Calls Tryd.prog 6 #[.pointer (some ⟨b, 0, none⟩)] w fun e w' => ∃ g, e = .returned (.slice (some ⟨g, 0, none⟩) 1 1) ∧ w'.cell? ⟨g, 0, none⟩ = some (.string (line p m)) ∧ Below w.heap.size w w' := by
  have H := lines_err p m b w hE h0 h1 hp
  clear hE h0 h1
  go_enter Tryd.func6, Tryd.ntmps6
  go_wp2_with (go_at_call 9; refine H.mono ?_; rintro e w1 ⟨g, rfl, hc, hb⟩)
  go_ret
  exact ⟨g, rfl, hc, hb⟩

set_option maxHeartbeats 400000 in
/-- ZZLinesOfList. -/
theorem linesOfList (p m : ByteArray) (b l : Nat) (w : World) (hE : w.cell? ⟨0, 0, none⟩ = some (.iface 56 (.agg #[.pointer (some ⟨2, 38, none⟩)])))
    (h0 : w.cell? ⟨b, 0, none⟩ = some (.string p)) (h1 : w.cell? ⟨b, 1, none⟩ = some (.string m)) (hl : w.cell? ⟨l, 0, none⟩ = some (.pointer (some ⟨b, 0, none⟩))) (hp : p.size + m.size ≤ 1048576) :
    Calls Tryd.prog 7 #[.slice (some ⟨l, 0, none⟩) 1 1] w fun e w' => ∃ g, e = .returned (.slice (some ⟨g, 0, none⟩) 1 1) ∧ w'.cell? ⟨g, 0, none⟩ = some (.string (line p m)) ∧ Below w.heap.size w w' := by
  have H := lines_list p m b l w hE h0 h1 hl hp
  clear hE h0 h1 hl
  go_enter Tryd.func7, Tryd.ntmps7
  go_wp2_with (go_at_call 9; refine H.mono ?_; rintro e w1 ⟨g, rfl, hc, hb⟩)
  go_ret
  exact ⟨g, rfl, hc, hb⟩

end Go.Proofs.Qxb6609531aDoor
