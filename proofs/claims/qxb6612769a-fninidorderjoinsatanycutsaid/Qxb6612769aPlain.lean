/-
  THE PLAIN LAWS of seat b6612769a: lists, no Go in sight.
-/
import Derived.Lib.SlicesCompact
namespace Go.Proofs.Qxb6612769a
open Go.Lib

/-- The id of pool place j. -/
def idAt (ids : List Int) (j : Nat) : Int := ids.getD j 0

/-- No two places of the pool's first n bear one id. -/
def Inj (ids : List Int) (n : Nat) : Prop := ∀ i j, i < n → j < n → idAt ids i = idAt ids j → i = j

/-- Strictly ascending by id. -/
def Asc (ids : List Int) (l : List Nat) : Prop := l.Pairwise fun a b => idAt ids a < idAt ids b

/-- l is the picks' transactions, once each, in ascending id. -/
def IsOrd (ids : List Int) (ps l : List Nat) : Prop := Asc ids l ∧ ∀ x, x ∈ l ↔ x ∈ ps

theorem asc_uniq {ids : List Int} : ∀ {l l' : List Nat}, Asc ids l → Asc ids l' → (∀ x, x ∈ l ↔ x ∈ l') → l = l'
  | [], [], _, _, _ => rfl
  | [], b :: t', _, _, h => absurd ((h b).2 (by simp)) (by simp)
  | a :: t, [], _, _, h => absurd ((h a).1 (by simp)) (by simp)
  | a :: t, b :: t', h1, h2, h => by
    obtain ⟨p1, q1⟩ := List.pairwise_cons.1 h1
    obtain ⟨p2, q2⟩ := List.pairwise_cons.1 h2
    have ab : a = b := by
      rcases List.mem_cons.1 ((h a).1 (by simp)) with e | e
      · exact e
      · rcases List.mem_cons.1 ((h b).2 (by simp)) with e' | e'
        · exact e'.symm
        · have := p2 a e; have := p1 b e'; omega
    subst ab
    have : t = t' := asc_uniq q1 q2 (fun x => by
      constructor
      · intro hx
        rcases List.mem_cons.1 ((h x).1 (List.mem_cons_of_mem _ hx)) with e | e
        · subst e; have := p1 x hx; omega
        · exact e
      · intro hx
        rcases List.mem_cons.1 ((h x).2 (List.mem_cons_of_mem _ hx)) with e | e
        · subst e; have := p2 x hx; omega
        · exact e)
    rw [this]

theorem asc_nodup {ids : List Int} : ∀ {l : List Nat}, Asc ids l → l.Nodup
  | [], _ => List.nodup_nil
  | a :: t, h => by
    obtain ⟨p, q⟩ := List.pairwise_cons.1 h
    exact List.nodup_cons.2 ⟨fun ha => by have := p a ha; omega, asc_nodup q⟩

theorem len_le : ∀ (l l' : List Nat), l.Nodup → (∀ x, x ∈ l → x ∈ l') → l.length ≤ l'.length
  | [], l', _, _ => Nat.zero_le _
  | a :: t, l', hn, h => by
    obtain ⟨ha, ht⟩ := List.nodup_cons.1 hn
    have hm : a ∈ l' := h a (by simp)
    have := len_le t (l'.erase a) ht (fun x hx => by
      have hne : x ≠ a := fun e => ha (e ▸ hx)
      exact (List.mem_erase_of_ne hne).2 (h x (List.mem_cons_of_mem _ hx)))
    rw [List.length_erase_of_mem hm] at this
    have : 0 < l'.length := List.length_pos_of_mem hm
    simp only [List.length_cons]
    omega

theorem len_eq {l l' : List Nat} (h1 : l.Nodup) (h2 : l'.Nodup) (h : ∀ x, x ∈ l ↔ x ∈ l') : l.length = l'.length :=
  Nat.le_antisymm (len_le l l' h1 fun x => (h x).1) (len_le l' l h2 fun x => (h x).2)

/-- slices.Compact of a row that ascends by a key which tells its elements apart: strictly ascending, the same elements. -/
theorem compact_asc {α : Type} [Inhabited α] [DecidableEq α] (key : α → Int) (d : Array α) (hs : ∀ i j, i < j → j < d.size → key d[i]! ≤ key d[j]!)
    (hinj : ∀ i j, i < d.size → j < d.size → key d[i]! = key d[j]! → d[i]! = d[j]!) :
    ∀ m, m ≤ d.size → (compactUpTo d m).Pairwise (fun a b => key a < key b) ∧ ∀ x, x ∈ compactUpTo d m ↔ ∃ j, j < m ∧ d[j]! = x
  | 0, _ => ⟨by simp [compactUpTo], by simp [compactUpTo]⟩
  | m + 1, hm => by
    obtain ⟨h1, h2⟩ := compact_asc key d hs hinj m (by omega)
    rw [compactUpTo_succ]
    by_cases hk : keeps d m = true
    · rw [if_pos hk]
      constructor
      · rw [List.pairwise_append]
        refine ⟨h1, by simp, fun a ha b hb => ?_⟩
        obtain ⟨j, hj, rfl⟩ := (h2 a).1 ha
        simp only [List.mem_singleton] at hb
        subst hb
        have hk' : m = 0 ∨ d[m]! ≠ d[m - 1]! := by simpa [keeps] using hk
        have hne : d[m]! ≠ d[m - 1]! := by rcases hk' with e | e; omega; exact e
        have e1 : key d[m - 1]! ≤ key d[m]! := hs (m - 1) m (by omega) (by omega)
        have e2 : key d[j]! ≤ key d[m - 1]! := by
          by_cases e : j = m - 1
          · rw [e]; exact Int.le_refl _
          · exact hs j (m - 1) (by omega) (by omega)
        have e3 : key d[m - 1]! ≠ key d[m]! := fun e => hne (hinj (m - 1) m (by omega) (by omega) e).symm
        omega
      · intro x
        rw [List.mem_append, h2, List.mem_singleton]
        constructor
        · rintro (⟨j, hj, e⟩ | e)
          · exact ⟨j, by omega, e⟩
          · exact ⟨m, by omega, e.symm⟩
        · rintro ⟨j, hj, e⟩
          by_cases hjm : j = m
          · right; rw [← e, hjm]
          · left; exact ⟨j, by omega, e⟩
    · rw [if_neg hk, List.append_nil]
      have hk' : ¬ (m = 0 ∨ d[m]! ≠ d[m - 1]!) := by simpa [keeps] using hk
      refine ⟨h1, fun x => ?_⟩
      rw [h2]
      constructor
      · rintro ⟨j, hj, e⟩; exact ⟨j, by omega, e⟩
      · rintro ⟨j, hj, e⟩
        by_cases hjm : j = m
        · refine ⟨m - 1, by omega, ?_⟩
          have : d[m]! = d[m - 1]! := Decidable.byContradiction fun h => hk' (.inr h)
          rw [← this, ← hjm, e]
        · exact ⟨j, by omega, e⟩

/-- What holds at every round of the merge. -/
structure MergeInv (ids : List Int) (a b : List Nat) (i j : Nat) (out : List Nat) : Prop where
  asc : Asc ids out
  mem : ∀ x, x ∈ out ↔ x ∈ a.take i ∨ x ∈ b.take j
  lowA : ∀ x, x ∈ out → ∀ y, y ∈ a.drop i → idAt ids x < idAt ids y
  lowB : ∀ x, x ∈ out → ∀ y, y ∈ b.drop j → idAt ids x < idAt ids y

theorem MergeInv.start (ids : List Int) (a b : List Nat) : MergeInv ids a b 0 0 [] := ⟨.nil, by simp, by simp, by simp⟩

theorem asc_drop {ids : List Int} {a : List Nat} (h : Asc ids a) {i : Nat} (hi : i < a.length) : ∀ y, y ∈ a.drop (i + 1) → idAt ids (a.getD i 0) < idAt ids y := by
  intro y hy
  have h2 : Asc ids (a.drop i) := List.Pairwise.sublist (List.drop_sublist _ _) h
  rw [List.drop_eq_getElem_cons hi] at h2
  have := (List.pairwise_cons.1 h2).1 y hy
  rwa [List.getD_eq_getElem?_getD, List.getElem?_eq_getElem hi]

theorem mem_take_succ {a : List Nat} {i : Nat} (hi : i < a.length) (x : Nat) : x ∈ a.take (i + 1) ↔ x ∈ a.take i ∨ x = a.getD i 0 := by
  rw [List.take_succ_eq_append_getElem hi, List.mem_append, List.mem_singleton, List.getD_eq_getElem?_getD, List.getElem?_eq_getElem hi]
  rfl

theorem mem_drop {a : List Nat} {i : Nat} (hi : i < a.length) : a.getD i 0 ∈ a.drop i := by
  rw [List.drop_eq_getElem_cons hi, List.getD_eq_getElem?_getD, List.getElem?_eq_getElem hi]
  exact List.mem_cons_self

theorem drop_sub {a : List Nat} {i : Nat} {y : Nat} (h : y ∈ a.drop (i + 1)) : y ∈ a.drop i := by
  rw [← List.drop_drop] at h
  exact List.mem_of_mem_drop h

theorem asc_snoc {ids : List Int} {out : List Nat} {x : Nat} (h : Asc ids out) (hx : ∀ y, y ∈ out → idAt ids y < idAt ids x) : Asc ids (out ++ [x]) := by
  unfold Asc
  rw [List.pairwise_append]
  exact ⟨h, by simp, fun a ha b hb => by simp only [List.mem_singleton] at hb; subst hb; exact hx a ha⟩

theorem MergeInv.takeA {ids : List Int} {a b : List Nat} {i j : Nat} {out : List Nat} (h : MergeInv ids a b i j out) (ha : Asc ids a) (hi : i < a.length)
    (hlt : ∀ y, y ∈ b.drop j → idAt ids (a.getD i 0) < idAt ids y) : MergeInv ids a b (i + 1) j (out ++ [a.getD i 0]) where
  asc := asc_snoc h.asc fun y hy => h.lowA y hy _ (mem_drop hi)
  mem := fun x => by rw [List.mem_append, h.mem, mem_take_succ hi, List.mem_singleton]; constructor <;> (intro hh; rcases hh with (hh | hh) | hh <;> simp [hh])
  lowA := fun x hx y hy => by
    rcases List.mem_append.1 hx with e | e
    · exact h.lowA x e y (drop_sub hy)
    · simp only [List.mem_singleton] at e; subst e; exact asc_drop ha hi y hy
  lowB := fun x hx y hy => by
    rcases List.mem_append.1 hx with e | e
    · exact h.lowB x e y hy
    · simp only [List.mem_singleton] at e; subst e; exact hlt y hy

theorem MergeInv.takeB {ids : List Int} {a b : List Nat} {i j : Nat} {out : List Nat} (h : MergeInv ids a b i j out) (hb : Asc ids b) (hj : j < b.length)
    (hlt : ∀ y, y ∈ a.drop i → idAt ids (b.getD j 0) < idAt ids y) : MergeInv ids a b i (j + 1) (out ++ [b.getD j 0]) where
  asc := asc_snoc h.asc fun y hy => h.lowB y hy _ (mem_drop hj)
  mem := fun x => by rw [List.mem_append, h.mem, mem_take_succ hj, List.mem_singleton, or_assoc]
  lowA := fun x hx y hy => by
    rcases List.mem_append.1 hx with e | e
    · exact h.lowA x e y hy
    · simp only [List.mem_singleton] at e; subst e; exact hlt y hy
  lowB := fun x hx y hy => by
    rcases List.mem_append.1 hx with e | e
    · exact h.lowB x e y (drop_sub hy)
    · simp only [List.mem_singleton] at e; subst e; exact asc_drop hb hj y hy

theorem MergeInv.takeBoth {ids : List Int} {a b : List Nat} {i j : Nat} {out : List Nat} (h : MergeInv ids a b i j out) (ha : Asc ids a) (hb : Asc ids b) (hi : i < a.length) (hj : j < b.length)
    (he : a.getD i 0 = b.getD j 0) : MergeInv ids a b (i + 1) (j + 1) (out ++ [a.getD i 0]) where
  asc := asc_snoc h.asc fun y hy => h.lowA y hy _ (mem_drop hi)
  mem := fun x => by
    rw [List.mem_append, h.mem, mem_take_succ hi, mem_take_succ hj, List.mem_singleton, ← he]
    constructor
    · rintro ((e | e) | e) <;> simp [e]
    · rintro ((e | e) | (e | e)) <;> simp [e]
  lowA := fun x hx y hy => by
    rcases List.mem_append.1 hx with e | e
    · exact h.lowA x e y (drop_sub hy)
    · simp only [List.mem_singleton] at e; subst e; exact asc_drop ha hi y hy
  lowB := fun x hx y hy => by
    rcases List.mem_append.1 hx with e | e
    · exact h.lowB x e y (drop_sub hy)
    · simp only [List.mem_singleton] at e; subst e; rw [he]; exact asc_drop hb hj y hy

theorem MergeInv.done {ids : List Int} {a b : List Nat} {out : List Nat} (h : MergeInv ids a b a.length b.length out) : Asc ids out ∧ ∀ x, x ∈ out ↔ x ∈ a ∨ x ∈ b :=
  ⟨h.asc, fun x => by rw [h.mem, List.take_length, List.take_length]⟩

/-- a[i] is below all that is left of b. -/
theorem below_rest {ids : List Int} {b : List Nat} (hb : Asc ids b) {j : Nat} (hj : j < b.length) {v : Int} (h : v < idAt ids (b.getD j 0)) : ∀ y, y ∈ b.drop j → v < idAt ids y := by
  intro y hy
  rw [List.drop_eq_getElem_cons hj] at hy
  have e0 : b[j] = b.getD j 0 := by rw [List.getD_eq_getElem?_getD, List.getElem?_eq_getElem hj]; rfl
  rcases List.mem_cons.1 hy with e | e
  · rw [e, e0]; exact h
  · have := asc_drop hb hj y e; omega

/-- The joined law: what the merge of two parts' orders gives is the whole's order. -/
theorem merge_whole {ids : List Int} {ps whole left right out : List Nat} {cut : Nat} (hw : IsOrd ids ps whole) (hl : IsOrd ids (ps.take cut) left) (hr : IsOrd ids (ps.drop cut) right)
    (ho : Asc ids out ∧ ∀ x, x ∈ out ↔ x ∈ left ∨ x ∈ right) : whole = out :=
  asc_uniq hw.1 ho.1 fun x => by
    rw [hw.2, ho.2, hl.2, hr.2, ← List.mem_append, List.take_append_drop]

end Go.Proofs.Qxb6612769a
