/-
  THE WALKS of seat b6609531aD, sixth part: the law.
-/
import Derived.Test.Qxb6609531aDoorWalksB
import Derived.Test.Qxb6609531aDoorWalksE
namespace Go.Proofs.Qxb6609531aDoor
open Go.RowKit Go.Lib

/-- The law's own line, turned into a string. -/
theorem conv_line {p m : ByteArray} {B : Nat} {v : Value} {w1 : World} (ho : w1.ownsRow B 5 1 v (line p m).size (strCells (line p m))) :
    (convert 23 9 v).run Tryd.prog w1 = .ok (.string (line p m)) w1 := by
  have hn : (line p m).size = (line p m).data.toList.length := by simp
  have hs := line_size p m
  rcases ho.2 with ⟨_, h⟩ | ⟨g, cap, cur, rfl, _, hg, _, _, _, _⟩
  · omega
  · have h := run_convert_bytes_back (P := Tryd.prog) w1 23 9 5 ⟨g, 0, none⟩ cap (line p m).data.toList Tryd.underlying23 Tryd.underlying5 Tryd.underlying9 (fun j hj => by
      have := ho.cells (g := g) rfl j (.int .u8 ((line p m).data.toList[j].toNat : Int)) (by simp [strCells, List.getElem?_eq_getElem hj])
      exact this)
    rw [← hn] at h
    simpa using h

set_option maxHeartbeats 1000000 in
theorem law_no (p m : ByteArray) (hp : p.size ≤ maxLen) (hm : m.size ≤ maxLen) (h : ¬ p.size + m.size ≤ 1048576) (w : World) :
    Calls Tryd.prog 3 #[.string p, .string m] w fun e w' => e = .returned (.bool true) ∧ Below w.heap.size w w' := by
  go_enter Tryd.func3, Tryd.ntmps3
  go_wp2_with (go_at_call 4; refine (bytes_no p m hp hm h _).mono ?_; rintro e w' ⟨rfl, rfl⟩)
  go_ret
  exact ⟨rfl, Below.refl _ _⟩

set_option maxHeartbeats 2000000 in
theorem law_yes (p m : ByteArray) (h : p.size + m.size ≤ 1048576) (w : World) (hE : w.cell? ⟨0, 0, none⟩ = some (.iface 56 (.agg #[.pointer (some ⟨2, 38, none⟩)]))) :
    Calls Tryd.prog 3 #[.string p, .string m] w fun e w' => e = .returned (.bool true) ∧ Below w.heap.size w w' := by
  have h1 : ¬ (1048576 : Int) < (p.size : Int) := by omega
  have h2 : ¬ (1048576 : Int) < (m.size : Int) := by omega
  have h3 : ¬ (1048576 : Int) < (p.size : Int) + (m.size : Int) := by omega
  have HE : Hid (w.cell? ⟨0, 0, none⟩ = some (.iface 56 (.agg #[.pointer (some ⟨2, 38, none⟩)]))) := hE
  have hz : 0 < w.heap.size := block_lt_of_cell hE
  clear hE
  go_enter Tryd.func3, Tryd.ntmps3
  go_upto_region 8 with (first
    | (go_at_call 4; refine (bytes_yes p m h _).mono ?_; rintro e wq ⟨rfl, hwq⟩; subst wq)
    | (go_at_call 5; refine (append_any p m _ h).mono ?_; rintro e w1 ⟨v, rfl, ho, hb1⟩; have hcv := conv_line ho; have B1 : Hid (Below _ _ w1) := hb1; clear ho hb1))
  have z1 := B1.out.size
  have E1 : Hid (w1.cell? ⟨0, 0, none⟩ = some (.iface 56 (.agg #[.pointer (some ⟨2, 38, none⟩)]))) := by rw [B1.out.cell (p := ⟨0, 0, none⟩) hz]; exact HE.out
  have E1' : Hid (∀ o, (w1.alloc o).cell? ⟨0, 0, none⟩ = some (.iface 56 (.agg #[.pointer (some ⟨2, 38, none⟩)]))) := fun o => by rw [World.cell?_alloc_lt _ _ _ (by simp; omega)]; exact E1.out
  clear hcv
  go_upto_region 9 with (go_at_call 6; refine (linesOfError p m w1.heap.size _ (E1'.out _) (by rw [World.cell?_alloc_new]; rfl) (by rw [World.cell?_alloc_new]; rfl) h).mono ?_; rintro e w2 ⟨g6, rfl, hc6, hb2⟩; have C6 : Hid (w2.cell? ⟨g6, 0, none⟩ = some (.string (line p m))) := hc6; have B2 : Hid (Below (w1.alloc _).heap.size (w1.alloc _) w2) := hb2; clear hc6 hb2)
  have z2 : w1.heap.size + 1 ≤ w2.heap.size := by have := B2.out.size; simpa using this
  have E2 : Hid (w2.cell? ⟨0, 0, none⟩ = some (.iface 56 (.agg #[.pointer (some ⟨2, 38, none⟩)]))) := by rw [B2.out.cell (p := ⟨0, 0, none⟩) (by simp)]; exact E1'.out _
  have E2' : Hid (∀ o1 o2, ((w2.alloc o1).alloc o2).cell? ⟨0, 0, none⟩ = some (.iface 56 (.agg #[.pointer (some ⟨2, 38, none⟩)]))) := fun o1 o2 => by
    rw [World.cell?_alloc_lt _ _ _ (by simp), World.cell?_alloc_lt _ _ _ (by simp; omega)]; exact E2.out
  have L6 := block_lt_of_cell C6.out
  go_upto_region 10 with (go_at_call 7; refine (linesOfList p m w2.heap.size (w2.heap.size + 1) _ (E2'.out _ _) (by rw [World.cell?_alloc2_first]; rfl) (by rw [World.cell?_alloc2_first]; rfl) (by rw [World.cell?_alloc2_new]; rfl) h).mono ?_; rintro e w3 ⟨g7, rfl, hc7, hb3⟩; have B3 : Hid (Below ((w2.alloc _).alloc _).heap.size ((w2.alloc _).alloc _) w3) := hb3; clear hb3)
  have c6 : w3.cell? ⟨g6, 0, none⟩ = some (.string (line p m)) := by
    rw [B3.out.cell (p := ⟨g6, 0, none⟩) (by simp at L6 ⊢; omega), World.cell?_alloc_lt _ _ _ (by simp at L6 ⊢; omega), World.cell?_alloc_lt _ _ _ L6]
    exact C6.out
  go_wp2
  go_ret
  refine ⟨rfl, ?_⟩
  have q2 : Below w.heap.size w w2 := (B1.out.alloc z1 _).trans (B2.out.mono (by simp; omega))
  exact ((q2.alloc (by omega) _).alloc (by simp; omega) _).trans (B3.out.mono (by simp; omega))

end Go.Proofs.Qxb6609531aDoor
