/-
  POINTERS TO TRANSACTIONS of seat b6612769a: '==' of two of them, and a map that is keyed by them, at the raw level.
-/
import Derived.Test.Qxb6612769aWalksC
import Derived.LaidEqlPtr
import Derived.Shelf.SlicesE.Kit
namespace Go.Proofs.Qxb6612769a
open Go.RowKit
open Go.ChangeMaps (setBlock)

theorem info75 : ∃ j, Try.prog.info? 75 = some j ∧ j.size ≠ 0 := by
  have h : ((Try.prog.info? 75).map fun i => i.size) = some 37 := by kernel_rfl
  cases e : Try.prog.info? 75 with
  | none => rw [e] at h; simp at h
  | some i =>
    rw [e] at h
    simp at h
    exact ⟨i, rfl, by omega⟩

theorem eq_ptr_same (a : Addr) (W : World) : (Op.equal 52 (.pointer (some a)) (.pointer (some a))).run Try.prog W = .ok true W := by
  obtain ⟨j, hj, _⟩ := info75
  have h := run_eql_ptr_same W a Try.underlying52 hj
  simp only [binOp] at h
  cases e : (Op.equal 52 (.pointer (some a)) (.pointer (some a))).run Try.prog W with
  | ok b w' => simp [e] at h; rw [h.1, h.2]
  | halt x w' => simp [e] at h

theorem eq_ptr_ne {a b : Nat} {ca cb : Array Value} {ta tb : TypeId} {W : World} (hne : a ≠ b) (ha : W.heap[a]? = some (.cells ca ta (0, 0))) (hb : W.heap[b]? = some (.cells cb tb (0, 0))) :
    (Op.equal 52 (.pointer (some ⟨a, 0, none⟩)) (.pointer (some ⟨b, 0, none⟩))).run Try.prog W = .ok false W := by
  obtain ⟨j, hj, hs⟩ := info75
  have h := run_eql_ptr_other W Try.underlying52 hj hs (a := ⟨a, 0, none⟩) (b := ⟨b, 0, none⟩) (fun e => hne (by cases e; rfl)) ha hb
  simp only [binOp] at h
  cases e : (Op.equal 52 (.pointer (some ⟨a, 0, none⟩)) (.pointer (some ⟨b, 0, none⟩))).run Try.prog W with
  | ok b w' => simp [e] at h; rw [h.1, h.2]
  | halt x w' => simp [e] at h

/-- The pointer to transaction j; B: the first transaction's block. -/
def ptr (B j : Nat) : Value := .pointer (some ⟨B + j, 0, none⟩)
/-- An element of the row of pointers: none: the nil pointer. -/
def encP (B : Nat) : Option Nat → Value
  | none => .pointer none
  | some j => ptr B j

theorem encP_one (B : Nat) : Go.Proofs.OneCell (encP B) := fun x => by cases x <;> rfl
theorem encP_guard (B : Nat) (op : BinOp) (a b : Operand) (x y : Option Nat) (w : World) : (eqGuard op 52 a b (encP B x) (encP B y)).run Try.prog w = .ok () w := by
  cases x <;> cases y <;> cases op <;> rfl

theorem run_neq_of {x y : Value} {b : Bool} {W : World} (h : (Op.equal 52 x y).run Try.prog W = .ok b W) (hx : ∃ a, x = .pointer a) (hy : ∃ a, y = .pointer a) :
    (binOp .eql 52 x y).run Try.prog W = .ok (.bool b) W ∧ (binOp .neq 52 x y).run Try.prog W = .ok (.bool (!b)) W := by
  obtain ⟨a, rfl⟩ := hx
  obtain ⟨a', rfl⟩ := hy
  constructor
  · simp only [binOp]
    simp [h]
  · simp only [binOp]
    simp [h]

/-- '==' and '!=' of two transactions' pointers in a world in which both lie. -/
theorem eq_encP {B : Nat} {W : World} {i j : Nat} (hi : ∃ c, W.heap[B + i]? = some (.cells c 75 (0, 0))) (hj : ∃ c, W.heap[B + j]? = some (.cells c 75 (0, 0))) :
    (binOp .eql 52 (encP B (some i)) (encP B (some j))).run Try.prog W = .ok (.bool (decide (some i = some j))) W ∧ (binOp .neq 52 (encP B (some i)) (encP B (some j))).run Try.prog W = .ok (.bool (!decide (some i = some j))) W := by
  refine run_neq_of ?_ ⟨_, rfl⟩ ⟨_, rfl⟩
  by_cases e : i = j
  · subst e
    simp only [decide_true]
    exact eq_ptr_same _ W
  · have : decide (some i = some j) = false := by simp [e]
    rw [this]
    obtain ⟨c, hc⟩ := hi
    obtain ⟨c', hc'⟩ := hj
    exact eq_ptr_ne (by omega) hc hc'

/-! ### A map keyed by such pointers -/
/-- The first k transactions' entries. -/
def ptrEnts (B k : Nat) : Array MapEntry := ((List.range k).map fun j => { key := ptr B j, val := .int .i64 (j : Int), born := j : MapEntry }).toArray

theorem asking_none {W : World} {key : Value} : ∀ (es : List MapEntry) (i : Nat), (∀ e ∈ es, (Op.equal 52 key e.key).run Try.prog W = .ok false W) → (Instr.findAsking 52 key es i).run Try.prog W = .ok none W
  | [], i, _ => by simp [Instr.findAsking]
  | e :: es, i, h => by
    simp [Instr.findAsking, h e (by simp), asking_none es (i + 1) (fun e' he => h e' (by simp [he]))]

theorem asking_some {W : World} {key : Value} (e : MapEntry) (es2 : List MapEntry) (h : (Op.equal 52 key e.key).run Try.prog W = .ok true W) (es1 : List MapEntry) :
    ∀ i : Nat, (∀ e ∈ es1, (Op.equal 52 key e.key).run Try.prog W = .ok false W) → (Instr.findAsking 52 key (es1 ++ e :: es2) i).run Try.prog W = .ok (some (i + es1.length, e.val)) W := by
  induction es1 with
  | nil =>
    intro i _
    rw [List.nil_append]
    unfold Instr.findAsking
    simp only [Sem.run_bind, h, Result.andThen_ok, if_true, Sem.run_pure, List.length_nil, Nat.add_zero]
  | cons e1 es1 ih =>
    intro i h1
    have ih := ih (i + 1) (fun e' he => h1 e' (by simp [he]))
    rw [List.cons_append]
    unfold Instr.findAsking
    simp only [Sem.run_bind, h1 e1 (by simp), Result.andThen_ok, Bool.false_eq_true, if_false]
    rw [ih, List.length_cons, show i + 1 + es1.length = i + (es1.length + 1) by omega]

theorem findNow_ptr (t : TypeId) (key : Value) (e : MapEntry) (es : List MapEntry) (i : Nat) : Instr.findNow (.pointer t) key (e :: es) i = none := by
  simp [Instr.findNow, Instr.sameNow]

theorem findKey_ptr {W : World} {key : Value} {es : List MapEntry} {r : Option (Nat × Value)} (h : (Instr.findAsking 52 key es).run Try.prog W = .ok r W) : (Instr.findKey 52 key es).run Try.prog W = .ok r W := by
  cases es with
  | nil =>
    simp [Instr.findAsking] at h
    simp [Instr.findKey, run_underlying Try.underlying52, Instr.findNow, h]
  | cons e es => simp [Instr.findKey, run_underlying Try.underlying52, findNow_ptr, h]

theorem checkKey52 (b : Bool) (a : Option Addr) (w : World) : (Instr.checkKey b 10000 52 (.pointer a)).run Try.prog w = .ok () w := by kernel_rfl

/-- at[p] = k, p the next transaction's pointer. -/
theorem put_ptr {W : World} {r B k : Nat} (hb : W.heap[r]? = some (.map (ptrEnts B k) k)) (hl : ∀ j, j < k + 1 → ∃ c, W.heap[B + j]? = some (.cells c 75 (0, 0))) :
    (Instr.mapUpdate 51 (.map (some r)) (ptr B k) (.int .i64 (k : Int))).run Try.prog W = .ok () (setBlock W r (.map (ptrEnts B (k + 1)) (k + 1))) := by
  have hf : (Instr.findKey 52 (ptr B k) (ptrEnts B k).toList).run Try.prog W = .ok none W := by
    apply findKey_ptr
    apply asking_none
    intro e he
    simp only [ptrEnts, List.mem_map, List.mem_range] at he
    obtain ⟨j, hj, rfl⟩ := he
    obtain ⟨c, hc⟩ := hl k (by omega)
    obtain ⟨c', hc'⟩ := hl j (by omega)
    exact eq_ptr_ne (by omega) hc hc'
  have he : (ptrEnts B k).push { key := ptr B k, val := .int .i64 (k : Int), born := k } = ptrEnts B (k + 1) := by simp [ptrEnts, List.range_succ]
  rw [show ptr B k = .pointer (some ⟨B + k, 0, none⟩) from rfl] at he hf ⊢
  simp [Instr.mapUpdate, run_underlying Try.underlying51, MapKept.run_getObj_map hb, checkKey52, hf, MapKept.run_setObj_map _ hb, he, setBlock]

/-- at[p], p transaction j's pointer. -/
theorem look_ptr {W : World} {r B n j c0 : Nat} (hb : W.heap[r]? = some (.map (ptrEnts B n) c0)) (hj : j < n) (hl : ∀ j, j < n → ∃ c, W.heap[B + j]? = some (.cells c 75 (0, 0))) :
    (Instr.lookup 51 (.map (some r)) (ptr B j) false).run Try.prog W = .ok (.int .i64 (j : Int)) W := by
  have hsplit : (ptrEnts B n).toList = ((List.range j).map fun j => { key := ptr B j, val := .int .i64 (j : Int), born := j : MapEntry }) ++ { key := ptr B j, val := .int .i64 (j : Int), born := j : MapEntry } :: ((List.range' (j + 1) (n - (j + 1))).map fun j => { key := ptr B j, val := .int .i64 (j : Int), born := j : MapEntry }) := by
    have : List.range n = List.range j ++ j :: List.range' (j + 1) (n - (j + 1)) := by
      rw [List.range_eq_range', List.range_eq_range', show n = j + (1 + (n - (j + 1))) by omega, ← List.range'_append_1, Nat.zero_add, show j + (1 + (n - (j + 1))) - (j + 1) = n - (j + 1) by omega, Nat.add_comm 1, List.range'_succ]
    simp only [ptrEnts]
    rw [this]
    simp
  have hf : (Instr.findKey 52 (ptr B j) (ptrEnts B n).toList).run Try.prog W = .ok (some (0 + j, .int .i64 (j : Int))) W := by
    apply findKey_ptr
    rw [hsplit]
    have := asking_some (W := W) (key := ptr B j) { key := ptr B j, val := .int .i64 (j : Int), born := j : MapEntry } ((List.range' (j + 1) (n - (j + 1))).map fun j => { key := ptr B j, val := .int .i64 (j : Int), born := j : MapEntry }) (eq_ptr_same _ W) ((List.range j).map fun j => { key := ptr B j, val := .int .i64 (j : Int), born := j : MapEntry }) 0 (fun e he => by
      simp only [List.mem_map, List.mem_range] at he
      obtain ⟨i, hi, rfl⟩ := he
      obtain ⟨c, hc⟩ := hl j hj
      obtain ⟨c', hc'⟩ := hl i (by omega)
      exact eq_ptr_ne (by omega) hc hc')
    simpa using this
  rw [show ptr B j = .pointer (some ⟨B + j, 0, none⟩) from rfl] at hf ⊢
  simp [Instr.lookup, run_underlying Try.underlying51, MapKept.run_getObj_map hb, checkKey52, hf]

end Go.Proofs.Qxb6612769a
