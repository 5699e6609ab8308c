/-
  FnInIDOrderJoinsAtAnyCut of seat b6612769a: the walk.
-/
import Derived.Test.Qxb6612769aJoinA
namespace Go.Proofs.Qxb6612769a
open Go.RowKit

set_option maxHeartbeats 4000000 in
set_option maxRecDepth 20000 in
theorem join_main (a0 a1 : Option Addr) (n c0 c1 cut : Nat) (ids : List Int) (ps : List Nat) (d0 d1 : Nat → Addr) (w : World) (hn : n ≤ 16384) (hm : ps.length ≤ 16384) (hc : cut ≤ ps.length)
    (h0 : InAt 22 .u64 w a0 n c0 ids d0) (h1 : InAt 23 .i64 w a1 ps.length c1 (natInts ps) d1) (hps : ∀ x, x ∈ ps → x < n) :
    Calls Try.prog 3 #[.slice a0 n c0, .slice a1 ps.length c1, .int .i64 (cut : Int)] w fun e w' => e = .returned (.bool true) ∧ Below w.heap.size w w' := by
  have hb : n + ps.length ≤ 1048576 := by omega
  have g1 : ¬ (16384 : Int) < (n : Int) := by omega
  have g2 : ¬ (16384 : Int) < (ps.length : Int) := by omega
  have g3 : ¬ (cut : Int) < 0 := by omega
  have g4 : ¬ (ps.length : Int) < (cut : Int) := by omega
  have q0 : n ≤ maxLen := by unfold maxLen; omega
  have q1 : ps.length ≤ maxLen := by unfold maxLen; omega
  have HP : Hid (inPool (natInts ps) (n : Int) = true) := inPool_nats hps
  have e0 : ∀ W : World, (binOp .neq 22 (.slice a0 n c0) (.slice none 0 0)).run Try.prog W = .ok (.bool (!a0.isNone)) W := fun W => run_neq_slice_nil_any W _ _ _ _ _ _ _ Try.underlying22
  have e1 : ∀ W : World, (binOp .neq 23 (.slice a1 ps.length c1) (.slice none 0 0)).run Try.prog W = .ok (.bool (!a1.isNone)) W := fun W => run_neq_slice_nil_any W _ _ _ _ _ _ _ Try.underlying23
  have R0 : Hid (InAt 22 .u64 w a0 n c0 ids d0) := h0
  have R1 : Hid (InAt 23 .i64 w a1 ps.length c1 (natInts ps) d1) := h1
  have PS : Hid (∀ x, x ∈ ps → x < n) := hps
  clear h0 h1 hps
  go_enter Try.func3, Try.ntmps3
  go_upto_if 51 with (first
    | (go_at_call 6; refine (bytes_yes a0 a1 n c0 ps.length c1 cut hb _).mono ?_; rintro e wq ⟨rfl, hwq⟩; subst wq)
    | (go_at_call 7; refine (picks_any a1 ps.length c1 (natInts ps) d1 n _ q1 R1.out.row).mono ?_; rintro e wq ⟨rfl, hwq⟩; subst wq; rw [HP.out])
    | (go_at_call 8; refine (distinct_any a0 n c0 ids d0 _ q0 R0.out.row).mono ?_; rintro e w1 ⟨b, rfl, hbj, hbw⟩))
  · go_ret
    exact ⟨rfl, hbw⟩
  have hbt : (!b) = false := by assumption
  obtain rfl : b = true := by cases b with | true => rfl | false => cases hbt
  have HJ : Hid (Inj ids n) := hbj rfl
  have W1 : Hid (Below w.heap.size w w1) := hbw
  have m22 := make22 n hn
  have m23 := make23 ps.length hm
  clear hbj hbw hbt
  go_cut [0] from 19 (fun s0 wx => ∃ a c d, s0 = .slice a n c ∧ Hid (RowAt 22 .u64 wx a n c ids d) ∧ Hid (Below w.heap.size w wx))
  case first =>
    cases a0 with
    | none =>
      go_wp2
      go_meet
      case rel => exact ⟨_, _, d0, rfl, R0.out.row.later W1.out, W1.out⟩
    | some x =>
      obtain ⟨w2, hcp, hw2, hb2⟩ := copy_new 22 29 .u64 Try.underlying22 size29 w1 x n c0 ids (.int .u64 0) R0.out.row.hlen (R0.out.src (W1.out.alloc W1.out.size _))
      have H2 : Hid (w2.heap[w1.heap.size]? = some (.cells (intCells .u64 ids).toArray 29 (0, 0))) := hw2
      have B2 : Hid (Below w.heap.size w w2) := W1.out.trans (hb2.mono W1.out.size)
      clear hw2 hb2
      go_wp2
      go_meet
      case rel => exact ⟨_, _, _, rfl, rowAt_heap22 R0.out.row.hlen H2.out, B2.out⟩
  case rest =>
    obtain ⟨a, c, d, rfl, RA, WA⟩ := hcut
    obtain ⟨wA, rfl⟩ : ∃ wA : World, wA = wc := ⟨_, rfl⟩
    clear e0 m22 W1 R0
    go_upto_if 60 with fail
    go_cut [1] from 19 (fun s1 wx => Hid (Picked wx s1 ps) ∧ Hid (Below wA.heap.size wA wx))
    case first =>
      cases a1 with
      | none =>
        go_wp2
        go_meet
        case rel =>
          obtain ⟨z1, z2⟩ := R1.out.nil rfl
          have z3 : ps = [] := List.eq_nil_of_length_eq_zero z1
          exact ⟨.inl ⟨by rw [z1, z2], z3⟩, Below.refl _ _⟩
      | some x =>
        obtain ⟨w2, hcp, hw2, hb2⟩ := copy_new 23 3 .i64 Try.underlying23 size3 wA x ps.length c1 (natInts ps) (.int .i64 0) R1.out.row.hlen (R1.out.src (WA.out.alloc WA.out.size _))
        have H2 : Hid (w2.heap[wA.heap.size]? = some (.cells (intCells .i64 (natInts ps)).toArray 3 (0, 0))) := hw2
        have B2 : Hid (Below wA.heap.size wA w2) := hb2
        clear hw2 hb2
        go_wp2
        go_meet
        case rel => exact ⟨.inr ⟨_, rfl, H2.out⟩, B2.out⟩
    case rest =>
      obtain ⟨PK, WB⟩ := hcut
      obtain ⟨wB, rfl⟩ : ∃ wB : World, wB = wc := ⟨_, rfl⟩
      obtain ⟨aP, aL, aR, cP, cL, cR, dP, dL, dR, hcut⟩ := PK.out.cuts hc
      obtain ⟨L, hL⟩ : ∃ L, L = ps.take cut := ⟨_, rfl⟩
      obtain ⟨R, hR⟩ : ∃ R, R = ps.drop cut := ⟨_, rfl⟩
      have runL := hcut.runL
      have runR := hcut.runR
      have KL : Hid (RowAt 23 .i64 wB aL L.length cL (natInts L) dL) := by rw [hL]; exact hcut.left
      have KR : Hid (RowAt 23 .i64 wB aR R.length cR (natInts R) dR) := by rw [hR]; exact hcut.right
      have KP : Hid (RowAt 23 .i64 wB aP ps.length cP (natInts ps) dP) := hcut.whole
      rw [← hL] at runL
      rw [← hR] at runR
      obtain rfl := hcut.eq
      have KA : Hid (RowAt 22 .u64 wB a n c ids d) := RA.out.later WB.out
      have WW : Hid (Below w.heap.size w wB) := WA.out.trans (WB.out.mono WA.out.size)
      have PL : Hid (∀ x, x ∈ L → x < n) := fun x hx => PS.out x (by rw [hL] at hx; exact List.mem_of_mem_take hx)
      have PR : Hid (∀ x, x ∈ R → x < n) := fun x hx => PS.out x (by rw [hR] at hx; exact List.mem_of_mem_drop hx)
      have nL : L.length ≤ 16384 := by rw [hL, List.length_take]; omega
      have nR : R.length ≤ 16384 := by rw [hR, List.length_drop]; omega
      have HL : Hid (L = ps.take cut) := hL
      have HR : Hid (R = ps.drop cut) := hR
      clear hL hR hcut PK WB WA RA R1 e1 m23 HP
      go_upto_region 18 with (go_at_call 9; refine (inOrder_any a aP n c cP ids ps d dP _ hn hm KA.out KP.out PS.out HJ.out).mono ?_; rintro e w3 ⟨lw, gw, hlw, rfl, hcw, hbw⟩)
      have OW : Hid (IsOrd ids ps lw) := hlw
      have B3 : Hid (Below wB.heap.size wB w3) := hbw
      have KW : Hid (RowAt 23 .i64 w3 (some ⟨gw, 0, none⟩) lw.length lw.length (natInts lw) (fun i => ⟨gw, 0 + i, none⟩)) := ordRow hcw
      have A3 : Hid (RowAt 22 .u64 w3 a n c ids d) := KA.out.later hbw
      have L3 : Hid (RowAt 23 .i64 w3 aL L.length cL (natInts L) dL) := KL.out.later hbw
      have R3 : Hid (RowAt 23 .i64 w3 aR R.length cR (natInts R) dR) := KR.out.later hbw
      clear hlw hcw hbw KA KL KR
      go_upto_region 19 with (go_at_call 9; refine (inOrder_any a aL n c cL ids L d dL _ hn nL A3.out L3.out PL.out HJ.out).mono ?_; rintro e w4 ⟨ll, gl, hll, rfl, hcl, hbl⟩)
      have OL : Hid (IsOrd ids L ll) := hll
      have B4 : Hid (Below wB.heap.size wB w4) := B3.out.trans (hbl.mono B3.out.size)
      have KL : Hid (RowAt 23 .i64 w4 (some ⟨gl, 0, none⟩) ll.length ll.length (natInts ll) (fun i => ⟨gl, 0 + i, none⟩)) := ordRow hcl
      have W4 : Hid (RowAt 23 .i64 w4 (some ⟨gw, 0, none⟩) lw.length lw.length (natInts lw) (fun i => ⟨gw, 0 + i, none⟩)) := KW.out.later hbl
      have A4 : Hid (RowAt 22 .u64 w4 a n c ids d) := A3.out.later hbl
      have R4 : Hid (RowAt 23 .i64 w4 aR R.length cR (natInts R) dR) := R3.out.later hbl
      clear hll hcl hbl A3 L3 R3 B3 KW
      go_upto_region 20 with (go_at_call 9; refine (inOrder_any a aR n c cR ids R d dR _ hn nR A4.out R4.out PR.out HJ.out).mono ?_; rintro e w5 ⟨lr, gr, hlr, rfl, hcr, hbr⟩)
      have OR : Hid (IsOrd ids R lr) := hlr
      have B5 : Hid (Below wB.heap.size wB w5) := B4.out.trans (hbr.mono B4.out.size)
      have KR : Hid (RowAt 23 .i64 w5 (some ⟨gr, 0, none⟩) lr.length lr.length (natInts lr) (fun i => ⟨gr, 0 + i, none⟩)) := ordRow hcr
      have W5 : Hid (RowAt 23 .i64 w5 (some ⟨gw, 0, none⟩) lw.length lw.length (natInts lw) (fun i => ⟨gw, 0 + i, none⟩)) := W4.out.later hbr
      have L5 : Hid (RowAt 23 .i64 w5 (some ⟨gl, 0, none⟩) ll.length ll.length (natInts ll) (fun i => ⟨gl, 0 + i, none⟩)) := KL.out.later hbr
      have A5 : Hid (RowAt 22 .u64 w5 a n c ids d) := A4.out.later hbr
      have P5 : Hid (RowAt 23 .i64 w5 aP ps.length cP (natInts ps) dP) := KP.out.later B5.out
      have WE : Hid (Below w.heap.size w w5) := WW.out.trans (B5.out.mono WW.out.size)
      clear hlr hcr hbr A4 R4 B4 W4 KL KP WW B5 runL runR PL PR
      have m28 := make28 n hn
      have hmw : lw.length ≤ 16384 := Nat.le_trans (len_le lw ps (asc_nodup OW.out.1) fun x hx => (OW.out.2 x).1 hx) hm
      have hml : ll.length ≤ 16384 := Nat.le_trans (len_le ll L (asc_nodup OL.out.1) fun x hx => (OL.out.2 x).1 hx) nL
      have hmr : lr.length ≤ 16384 := Nat.le_trans (len_le lr R (asc_nodup OR.out.1) fun x hx => (OR.out.2 x).1 hx) nR
      go_wp2
      obtain ⟨G, hG⟩ : ∃ G, G = w5.heap.size := ⟨_, rfl⟩
      have start1 : Hid ((w5.alloc (.cells (madeCells #[.bool false] n) 4)).heap[G]? = some (.cells (markCells n []) 4 (0, 0))) := by rw [hG, ← markCells_zero]; exact heap_alloc_new w5 _
      have start2 : Hid (Below w5.heap.size w5 (w5.alloc (.cells (madeCells #[.bool false] n) 4))) := (Below.refl _ _).alloc (Nat.le_refl _) _
      rw [← hG]
      have HG : Hid (G = w5.heap.size) := hG
      clear hG m28
      go_loopw [13, 14] (fun vc vi wr => ∃ (k : Nat) (s : List Nat), k ≤ ps.length ∧ vi = .int .i64 k ∧ vc = .int .i64 s.length ∧ s.length ≤ k ∧ Hid (s.Nodup) ∧ Hid (∀ x, x ∈ s ↔ x ∈ ps.take k) ∧ Hid (wr.heap[G]? = some (.cells (markCells n s) 4 (0, 0))) ∧ Hid (Below w5.heap.size w5 wr)) (fun _ vi _ => ps.length - (intOf vi).toNat)
      case atStart => exact ⟨0, [], Nat.zero_le _, rfl, rfl, Nat.zero_le _, List.nodup_nil, (fun x => by simp), start1.out, start2.out⟩
      case round =>
        obtain ⟨k, s, hk, rfl, rfl, hsl, hsd, hsm, hsr, hsb⟩ := hrel
        by_cases hlt : k < ps.length
        · have f1 := P5.out.idx k hlt
          have f2 := (P5.out.later hsb.out).cell k hlt
          rw [natInts_at] at f2
          obtain ⟨p, hp⟩ : ∃ p, p = ps.getD k 0 := ⟨_, rfl⟩
          have pn : p < n := by rw [hp]; exact PS.out _ (getD_mem hlt)
          rw [← hp] at f2
          have f3 := idx28 G n n p pn
          have f4 : wr.cell? ⟨G, p, none⟩ = some (.bool (decide (p ∈ s))) := by rw [cell_of_row wr G p _ 4 _ hsr.out, markCells_at, if_pos pn]
          have f5 : wr.frozen? ⟨G, p, none⟩ = false := frozen_of_row _ _ _ _ _ hsr.out
          have HPp : Hid (p = ps.getD k 0) := hp
          clear hp
          by_cases hin : p ∈ s
          · rw [decide_eq_true hin] at f4
            have HI : Hid (p ∈ s) := hin
            clear hin
            go_wp2
            go_roundw
            case rel => exact ⟨k + 1, s, by omega, by go_num, rfl, by omega, hsd.out, (fun x => by
              rw [mem_take_succ hlt, hsm.out x, ← HPp.out]
              constructor
              · exact fun h => .inl h
              · rintro (h | h)
                · exact h
                · rw [h]; exact (hsm.out p).1 HI.out), hsr.out, hsb.out⟩
            case measure => simp [intOf]; omega
          · rw [decide_eq_false hin] at f4
            have HI : Hid (¬ p ∈ s) := hin
            clear hin
            go_wp2
            go_roundw
            case rel => exact ⟨k + 1, s ++ [p], by omega, by go_num, by simp, by rw [List.length_append, List.length_singleton]; omega, (by
              refine List.nodup_append.2 ⟨hsd.out, by simp, fun x hx y hy e => ?_⟩
              simp only [List.mem_singleton] at hy
              exact HI.out (by rw [← hy, ← e]; exact hx)), (fun x => by
              rw [mem_take_succ hlt, List.mem_append, hsm.out x, ← HPp.out, List.mem_singleton]), (show _ = _ by
              rw [heap_setCell_same _ _ _ _ _ _ hsr.out, markCells_step _ _ _ pn]), hsb.out.setCell (by rw [HG.out]; exact Nat.le_refl _) _⟩
            case measure => simp [intOf]; omega
        · obtain rfl : k = ps.length := by omega
          have hcnt : s.length = lw.length := len_eq hsd.out (asc_nodup OW.out.1) (fun x => by rw [hsm.out x, List.take_length, OW.out.2])
          rw [hcnt]
          have hne : ((lw.length : Int) != (lw.length : Int)) = false := by simp
          obtain ⟨w6, rfl⟩ : ∃ w6 : World, w6 = wr := ⟨_, rfl⟩
          have SM : Hid (∀ x, x ∈ lw → x ∈ s) := fun x hx => by rw [hsm.out x, List.take_length]; exact (OW.out.2 x).1 hx
          have LN : Hid (∀ x, x ∈ lw → x < n) := fun x hx => PS.out x ((OW.out.2 x).1 hx)
          have W6 : Hid (RowAt 23 .i64 w6 (some ⟨gw, 0, none⟩) lw.length lw.length (natInts lw) (fun i => ⟨gw, 0 + i, none⟩)) := W5.out.later hsb.out
          have L6 : Hid (RowAt 23 .i64 w6 (some ⟨gl, 0, none⟩) ll.length ll.length (natInts ll) (fun i => ⟨gl, 0 + i, none⟩)) := L5.out.later hsb.out
          have R6 : Hid (RowAt 23 .i64 w6 (some ⟨gr, 0, none⟩) lr.length lr.length (natInts lr) (fun i => ⟨gr, 0 + i, none⟩)) := KR.out.later hsb.out
          have A6 : Hid (RowAt 22 .u64 w6 a n c ids d) := A5.out.later hsb.out
          have WF : Hid (Below w.heap.size w w6) := WE.out.trans (hsb.out.mono WE.out.size)
          clear W5 L5 KR A5 WE P5 hsb hsm hsd hsl hcnt hlt start1 start2
          go_wp2
          go_loopw [15] (fun vi wr => ∃ k : Nat, k ≤ lw.length ∧ vi = .int .i64 k ∧ Hid (∃ q, wr = w6.drewN q)) (fun vi _ => lw.length - (intOf vi).toNat)
          case atStart => exact ⟨0, Nat.zero_le _, rfl, ⟨0, rfl⟩⟩
          case round =>
            obtain ⟨k, hk2, rfl, hq⟩ := hrel
            have old : Hid (∀ ad v, w6.cell? ad = some v → wr.cell? ad = some v) := fun ad v h => by obtain ⟨q, rfl⟩ := hq.out; exact h
            by_cases hlt : k < lw.length
            · have f1 : ∀ W : World, (Instr.indexAt 23 (.slice (some ⟨gw, 0, none⟩) lw.length lw.length) (.int .i64 (k : Int))).run Try.prog W = .ok (.pointer (some ⟨gw, k, none⟩)) W := fun W => by
                have := W6.out.idx k hlt W
                simpa only [Nat.zero_add] using this
              have f2 : wr.cell? ⟨gw, k, none⟩ = some (.int .i64 ((lw.getD k 0 : Nat) : Int)) := by
                have := old.out _ _ (W6.out.cell k hlt)
                rw [natInts_at] at this
                simpa only [Nat.zero_add] using this
              obtain ⟨x, hx⟩ : ∃ x, x = lw.getD k 0 := ⟨_, rfl⟩
              have xl : x ∈ lw := by rw [hx]; exact getD_mem hlt
              have xn : x < n := LN.out x xl
              rw [← hx] at f2
              have f3 := idx28 G n n x xn
              have f4 : wr.cell? ⟨G, x, none⟩ = some (.bool true) := old.out _ _ (by rw [cell_of_row w6 G x _ 4 _ hsr.out, markCells_at, if_pos xn, decide_eq_true (SM.out x xl)])
              have f5 := A6.out.idx x xn
              have f6 := old.out _ _ (A6.out.cell x xn)
              obtain ⟨vx, hvx⟩ : ∃ v, v = ids.getD x 0 := ⟨_, rfl⟩
              rw [← hvx] at f6
              have HX : Hid (x = lw.getD k 0) := hx
              have HV : Hid (vx = ids.getD x 0) := hvx
              clear hx hvx xl
              by_cases h0 : 0 < k
              · obtain ⟨j, hkj⟩ : ∃ j, k = j + 1 := ⟨k - 1, by omega⟩
                have hj : j < lw.length := by omega
                have ej : (k : Int) - 1 = (j : Int) := by omega
                have b1 : ∀ W : World, (Instr.indexAt 23 (.slice (some ⟨gw, 0, none⟩) lw.length lw.length) (.int .i64 ((k : Int) - 1))).run Try.prog W = .ok (.pointer (some ⟨gw, j, none⟩)) W := fun W => by
                  have := W6.out.idx j hj W
                  rw [ej]
                  simpa only [Nat.zero_add] using this
                have b2 : wr.cell? ⟨gw, j, none⟩ = some (.int .i64 ((lw.getD j 0 : Nat) : Int)) := by
                  have := old.out _ _ (W6.out.cell j hj)
                  rw [natInts_at] at this
                  simpa only [Nat.zero_add] using this
                obtain ⟨y, hy⟩ : ∃ y, y = lw.getD j 0 := ⟨_, rfl⟩
                have yn : y < n := by rw [hy]; exact LN.out _ (getD_mem hj)
                rw [← hy] at b2
                have b3 := A6.out.idx y yn
                have b4 := old.out _ _ (A6.out.cell y yn)
                obtain ⟨vy, hvy⟩ : ∃ v, v = ids.getD y 0 := ⟨_, rfl⟩
                rw [← hvy] at b4
                have hlt' : vy < vx := by rw [hvy, HV.out, hy, HX.out]; exact asc_drop OW.out.1 hj _ (by rw [← hkj]; exact mem_drop hlt)
                have hge : decide (vx ≤ vy) = false := decide_eq_false (by omega)
                clear hy hvy hkj ej hlt'
                have hd : decide ((0 : Int) < (k : Int)) = true := decide_eq_true (by omega)
                go_wp2_with fail
                go_quiet (fail)
                go_wp2
                go_roundw
                case rel => exact ⟨k + 1, by omega, by go_num, by obtain ⟨q, rfl⟩ := hq.out; exact ⟨q + nq, by simp⟩⟩
                case measure => simp [intOf]; omega
              · have hd : decide ((0 : Int) < (k : Int)) = false := decide_eq_false (by omega)
                go_wp2_with fail
                go_quiet (fail)
                go_wp2
                go_roundw
                case rel => exact ⟨k + 1, by omega, by go_num, by obtain ⟨q, rfl⟩ := hq.out; exact ⟨q + nq, by simp⟩⟩
                case measure => simp [intOf]; omega
            · obtain rfl : k = lw.length := by omega
              have BQ : Below w6.heap.size w6 wr := by obtain ⟨q, rfl⟩ := hq.out; exact below_drewN (Below.refl _ _) q
              have W7 : Hid (RowAt 23 .i64 wr (some ⟨gw, 0, none⟩) lw.length lw.length (natInts lw) (fun i => ⟨gw, 0 + i, none⟩)) := W6.out.later BQ
              have L7 : Hid (RowAt 23 .i64 wr (some ⟨gl, 0, none⟩) ll.length ll.length (natInts ll) (fun i => ⟨gl, 0 + i, none⟩)) := L6.out.later BQ
              have R7 : Hid (RowAt 23 .i64 wr (some ⟨gr, 0, none⟩) lr.length lr.length (natInts lr) (fun i => ⟨gr, 0 + i, none⟩)) := R6.out.later BQ
              have A7 : Hid (RowAt 22 .u64 wr a n c ids d) := A6.out.later BQ
              have WG : Hid (Below w.heap.size w wr) := WF.out.trans (BQ.mono WF.out.size)
              have ML : Hid (∀ x, x ∈ ll → x < n) := fun x hx => PS.out x (by have := (OL.out.2 x).1 hx; rw [HL.out] at this; exact List.mem_of_mem_take this)
              have MR : Hid (∀ x, x ∈ lr → x < n) := fun x hx => PS.out x (by have := (OR.out.2 x).1 hx; rw [HR.out] at this; exact List.mem_of_mem_drop this)
              clear W6 L6 R6 A6 BQ hlt
              go_upto_region 39 with (go_at_call 10; refine (merge_any a (some ⟨gl, 0, none⟩) (some ⟨gr, 0, none⟩) n c ll.length lr.length ids ll lr d _ _ _ hn hml hmr A7.out L7.out R7.out ML.out MR.out HJ.out OL.out.1 OR.out.1).mono ?_; rintro e w8 ⟨v, out, rfl, how, hoo, hol, hb8⟩)
              have hwo : lw = out := merge_whole (cut := cut) OW.out (by rw [← HL.out]; exact OL.out) (by rw [← HR.out]; exact OR.out) hoo
              subst hwo
              obtain ⟨av, cv, dv, rfl, RV⟩ := ownRow how
              have qw : lw.length ≤ maxLen := by unfold maxLen; omega
              have RV8 : Hid (RowAt 23 .i64 w8 av lw.length cv (natInts lw) dv) := RV
              have W8 : Hid (RowAt 23 .i64 w8 (some ⟨gw, 0, none⟩) lw.length lw.length (natInts lw) (fun i => ⟨gw, 0 + i, none⟩)) := W7.out.later hb8
              have WH : Hid (Below w.heap.size w w8) := WG.out.trans (hb8.mono WG.out.size)
              clear how hoo hol hb8 RV
              go_wp2_with (go_at_call 11; refine (same_any (some ⟨gw, 0, none⟩) av lw.length lw.length cv (natInts lw) _ dv _ qw W8.out RV8.out).mono ?_; rintro e w9 ⟨rfl, hb9⟩)
              go_ret
              exact ⟨rfl, WH.out.trans (hb9.mono WH.out.size)⟩

end Go.Proofs.Qxb6612769a
