/-
  THE PLAIN LAWS of seat b6612713a: lists of bytes, no Go in sight.
-/
import Derived.Lib.Strings
namespace Go.Proofs.Qxb6612713a
open Go

/-- The four bytes of the ending. -/
def tmpB : List UInt8 := [46, 116, 109, 112]

/-- What 'isTemp' computes. -/
def tempB (file name : List UInt8) : Bool := Lib.hasPrefix file (46 :: name ++ [46]) && Lib.hasSuffix file tmpB

/-- The temporary name of 'name' with 'mid' in the middle. -/
def tName (name mid : List UInt8) : List UInt8 := 46 :: name ++ [46] ++ mid ++ tmpB

theorem suf_tmp (l : List UInt8) : Lib.hasSuffix (l ++ tmpB) tmpB = true := by
  unfold Lib.hasSuffix
  rw [List.isSuffixOf_iff_suffix]
  exact ⟨l, rfl⟩

theorem pre_self (name rest : List UInt8) : Lib.hasPrefix (46 :: name ++ [46] ++ rest) (46 :: name ++ [46]) = true := by
  unfold Lib.hasPrefix
  rw [List.isPrefixOf_iff_prefix]
  exact ⟨rest, rfl⟩

theorem temp_own (name mid : List UInt8) : tempB (tName name mid) name = true := by
  unfold tempB
  rw [show tName name mid = 46 :: name ++ [46] ++ (mid ++ tmpB) by simp [tName], pre_self]
  rw [show 46 :: name ++ [46] ++ (mid ++ tmpB) = (46 :: name ++ [46] ++ mid) ++ tmpB by simp, suf_tmp]
  rfl

theorem pre_other (name other rest : List UInt8) (h : other.length = name.length) :
    Lib.hasPrefix (46 :: name ++ [46] ++ rest) (46 :: other ++ [46]) = decide (other = name) := by
  by_cases e : other = name
  · subst e; rw [pre_self]; simp
  · rw [decide_eq_false e]
    apply Bool.eq_false_iff.mpr
    intro hp
    unfold Lib.hasPrefix at hp
    rw [List.isPrefixOf_iff_prefix] at hp
    obtain ⟨t, ht⟩ := hp
    apply e
    have h2 : other ++ ([46] ++ t) = name ++ ([46] ++ rest) := by simpa using ht
    exact (List.append_inj h2 h).1

theorem temp_other (name other mid : List UInt8) (h : other.length = name.length) : tempB (tName name mid) other = decide (other = name) := by
  unfold tempB
  have h1 : tName name mid = 46 :: name ++ [46] ++ (mid ++ tmpB) := by simp [tName]
  have h2 : Lib.hasSuffix (tName name mid) tmpB = true := suf_tmp _
  rw [h2, h1, pre_other _ _ _ h, Bool.and_true]

theorem temp_bare (name : List UInt8) : tempB name name = false := by
  unfold tempB
  have : Lib.hasPrefix name (46 :: name ++ [46]) = false := by
    apply Bool.eq_false_iff.mpr
    intro hp
    unfold Lib.hasPrefix at hp
    rw [List.isPrefixOf_iff_prefix] at hp
    have := hp.length_le
    simp at this
    omega
  rw [this]; rfl

theorem temp_bareTmp (name : List UInt8) : tempB (name ++ tmpB) name = false := by
  unfold tempB
  have : Lib.hasPrefix (name ++ tmpB) (46 :: name ++ [46]) = false := by
    apply Bool.eq_false_iff.mpr
    intro hp
    unfold Lib.hasPrefix at hp
    rw [List.isPrefixOf_iff_prefix] at hp
    obtain ⟨t, ht⟩ := hp
    have e1 : (46 :: name ++ [46] ++ t)[name.length + 1]? = some 46 := by simp
    have e2 : (name ++ tmpB)[name.length + 1]? = some 116 := by
      rw [List.getElem?_append_right (by omega)]
      simp [tmpB]
    rw [ht, e2] at e1
    exact absurd e1 (by decide)
  rw [this]; rfl

/-- What 'endsTmpOrEmpty' computes. -/
def endsB (x : List UInt8) : Bool := x.isEmpty || Lib.hasSuffix x tmpB

theorem suf_of (l x : List UInt8) (h : 4 ≤ x.length) : Lib.hasSuffix (l ++ x) tmpB = Lib.hasSuffix x tmpB := by
  rw [Bool.eq_iff_iff]
  unfold Lib.hasSuffix
  rw [List.isSuffixOf_iff_suffix, List.isSuffixOf_iff_suffix]
  constructor
  · intro hs
    exact List.suffix_of_suffix_length_le hs (List.suffix_append l x) (by simpa [tmpB] using h)
  · intro hs
    exact hs.trans (List.suffix_append l x)

theorem suf_iff (x : List UInt8) : (Lib.hasSuffix x tmpB = true) ↔ tmpB.reverse <+: x.reverse := by
  unfold Lib.hasSuffix
  rw [List.isSuffixOf_iff_suffix, List.reverse_prefix]

theorem suf_tmpx (l x : List UInt8) : Lib.hasSuffix (l ++ tmpB ++ x) tmpB = endsB x := by
  by_cases h : 4 ≤ x.length
  · rw [suf_of _ x h]
    have : x.isEmpty = false := by cases x <;> simp at h ⊢
    simp [endsB, this]
  · match x, h with
    | [], _ => rw [List.append_nil, suf_tmp]; rfl
    | [a], _ =>
      rw [Bool.eq_iff_iff, suf_iff]
      simp [endsB, tmpB, Lib.hasSuffix, List.isSuffixOf]
    | [a, b], _ =>
      rw [Bool.eq_iff_iff, suf_iff]
      simp [endsB, tmpB, Lib.hasSuffix, List.isSuffixOf]
    | [a, b, c], _ =>
      rw [Bool.eq_iff_iff, suf_iff]
      simp [endsB, tmpB, Lib.hasSuffix, List.isSuffixOf]
    | _ :: _ :: _ :: _ :: _, h => simp at h

theorem temp_more (name mid x : List UInt8) : tempB (tName name mid ++ x) name = endsB x := by
  unfold tempB
  have h1 : tName name mid ++ x = 46 :: name ++ [46] ++ (mid ++ tmpB ++ x) := by simp [tName]
  have h2 : Lib.hasSuffix (tName name mid ++ x) tmpB = endsB x := suf_tmpx _ x
  rw [h2, h1, pre_self, Bool.true_and]

theorem temp_moreTmp (name mid x : List UInt8) : tempB (tName name mid ++ x ++ tmpB) name = true := by
  unfold tempB
  have h1 : tName name mid ++ x ++ tmpB = 46 :: name ++ [46] ++ (mid ++ tmpB ++ x ++ tmpB) := by simp [tName]
  have h2 : Lib.hasSuffix (tName name mid ++ x ++ tmpB) tmpB = true := suf_tmp _
  rw [h2, h1, pre_self]; rfl

end Go.Proofs.Qxb6612713a
