/-
  THE WALKS of seat b6612713a, first part: isTemp.
-/
import Derived.Test.Qxb6612713aRows
import Derived.Test.Qxb6612713aPlain
import Derived.Test.Qxb6612713aShelf
import Derived.WalkKit
import Derived.WalkSpells
import Derived.WalkLawsBesides
namespace Go.Proofs.Qxb6612713a
open Go.RowKit

theorem dotted (name : ByteArray) : ((⟨#[46]⟩ ++ name ++ ⟨#[46]⟩ : ByteArray).data.toList) = 46 :: name.data.toList ++ [46] := by simp

set_option maxHeartbeats 400000 in
/-- isTemp. -/
theorem isTemp_any (file name : ByteArray) (hf : file.size ≤ 4194304) (hn : name.size ≤ 4194304) (w : World) :
    Calls Try.prog 9 #[.string file, .string name] w fun e w' => e = .returned (.bool (tempB file.data.toList name.data.toList)) ∧ w' = w := by
  have hs : file.size ≤ 9223372036854775807 := by omega
  cases hp : Lib.hasPrefix file.data.toList (46 :: name.data.toList ++ [46])
  · have HP : Hid (Lib.hasPrefix file.data.toList (46 :: name.data.toList ++ [46]) = false) := hp
    clear hp
    go_enter Try.func9, Try.ntmps9
    go_wp2_with (first
      | (go_at_call 10; refine (Try.strings_HasPrefix _ _ _).mono ?_; rintro e w' ⟨rfl, rfl⟩; rw [dotted, HP.out])
      | (go_at_call 11; refine (Try.strings_HasSuffix _ _ _ hs).mono ?_; rintro e w' ⟨rfl, rfl⟩))
    go_ret
    exact ⟨by simp only [tempB, HP.out, Bool.false_and]; rfl, rfl⟩
  · have HP : Hid (Lib.hasPrefix file.data.toList (46 :: name.data.toList ++ [46]) = true) := hp
    clear hp
    go_enter Try.func9, Try.ntmps9
    go_wp2_with (first
      | (go_at_call 10; refine (Try.strings_HasPrefix _ _ _).mono ?_; rintro e w' ⟨rfl, rfl⟩; rw [dotted, HP.out])
      | (go_at_call 11; refine (Try.strings_HasSuffix _ _ _ hs).mono ?_; rintro e w' ⟨rfl, rfl⟩))
    go_ret
    exact ⟨by simp only [tempB, HP.out, Bool.true_and]; rfl, rfl⟩

set_option maxHeartbeats 400000 in
/-- ZZisTemp, its answer named. -/
theorem temp_any (file name : ByteArray) (hf : file.size ≤ 4194304) (hn : name.size ≤ 4194304) (b : Bool) (hb : tempB file.data.toList name.data.toList = b) (w : World) :
    Calls Try.prog 6 #[.string file, .string name] w fun e w' => e = .returned (.bool b) ∧ w' = w := by
  go_enter Try.func6, Try.ntmps6
  go_wp2_with (go_at_call 9; refine (isTemp_any _ _ hf hn _).mono ?_; rintro e w' ⟨rfl, rfl⟩; rw [hb])
  go_ret
  exact ⟨rfl, rfl⟩

/-- The last four bytes tell. -/
theorem ends_eq (x : ByteArray) (h4 : 4 ≤ x.size) : endsB x.data.toList =
    (decide (((x[x.size - 4]'(by omega)).toNat : Int) = 46) && (decide (((x[x.size - 3]'(by omega)).toNat : Int) = 116) && (decide (((x[x.size - 2]'(by omega)).toNat : Int) = 109) && decide (((x[x.size - 1]'(by omega)).toNat : Int) = 112)))) := by
  have hl : x.data.toList.length = x.size := by simp
  have he : x.data.toList.isEmpty = false := by
    cases e : x.data.toList with
    | nil => rw [e] at hl; simp at hl; omega
    | cons => rfl
  have hd : x.data.toList.drop (x.data.toList.length - tmpB.length) = [x[x.size - 4]'(by omega), x[x.size - 3]'(by omega), x[x.size - 2]'(by omega), x[x.size - 1]'(by omega)] := by
    rw [hl, show tmpB.length = 4 from rfl]
    apply List.ext_getElem
    · simp; omega
    · intro i h1 h2
      simp at h2
      rw [List.getElem_drop]
      match i, h2 with
      | 0, _ => rfl
      | 1, _ => exact getElem_congr_idx (show x.size - 4 + 1 = x.size - 3 by omega)
      | 2, _ => exact getElem_congr_idx (show x.size - 4 + 2 = x.size - 2 by omega)
      | 3, _ => exact getElem_congr_idx (show x.size - 4 + 3 = x.size - 1 by omega)
  have hs : Lib.hasSuffix x.data.toList tmpB = decide (tmpB = [x[x.size - 4]'(by omega), x[x.size - 3]'(by omega), x[x.size - 2]'(by omega), x[x.size - 1]'(by omega)]) := by
    rw [Bool.eq_iff_iff, decide_eq_true_iff]
    unfold Lib.hasSuffix
    rw [List.isSuffixOf_iff_suffix, List.suffix_iff_eq_drop, hd]
  have hb : ∀ (a : UInt8) (k : UInt8), (k = a) ↔ ((a.toNat : Int) = (k.toNat : Int)) := fun a k => by
    rw [← UInt8.toNat_inj]; omega
  unfold endsB
  rw [he, Bool.false_or, hs]
  simp only [tmpB, List.cons.injEq, and_true, hb, Bool.decide_and]
  rfl

theorem ret_bool {a b : Bool} (h : a = b) : Ending.returned (.bool a) = .returned (.bool b) := by rw [h]

set_option maxHeartbeats 400000 in
/-- endsTmpOrEmpty at four bytes or more. -/
theorem ends_long (x : ByteArray) (hx : x.size ≤ 4194304) (h4 : 4 ≤ x.size) (w : World) :
    Calls Try.prog 8 #[.string x] w fun e w' => e = .returned (.bool (endsB x.data.toList)) ∧ w' = w := by
  have E : Hid (endsB x.data.toList = _) := ends_eq x h4
  go_enter Try.func8, Try.ntmps8
  go_wp2
  all_goals
    go_ret
    exact ⟨ret_bool (by rw [E.out]; simp [*] <;> rfl), rfl⟩

set_option maxHeartbeats 400000 in
/-- endsTmpOrEmpty at fewer. -/
theorem ends_short (x : ByteArray) (h4 : x.size < 4) (w : World) :
    Calls Try.prog 8 #[.string x] w fun e w' => e = .returned (.bool (endsB x.data.toList)) ∧ w' = w := by
  by_cases h0 : x.size = 0
  · have e : endsB x.data.toList = true := by
      have : x.data.toList = [] := List.eq_nil_of_length_eq_zero (by simpa using h0)
      rw [this]; rfl
    have h1 : ((x.size : Int) == 0) = true := by simp [h0]
    clear h0
    rw [e]
    go_enter Try.func8, Try.ntmps8
    go_wp2
    go_ret
    exact ⟨rfl, rfl⟩
  · have hl : x.data.toList.length = x.size := by simp
    have e : endsB x.data.toList = false := by
      unfold endsB
      have he : x.data.toList.isEmpty = false := by
        cases e : x.data.toList with
        | nil => rw [e] at hl; simp at hl; omega
        | cons => rfl
      rw [he, Bool.false_or]
      apply Bool.eq_false_iff.mpr
      intro hp
      unfold Lib.hasSuffix at hp
      rw [List.isSuffixOf_iff_suffix] at hp
      have := hp.length_le
      rw [hl] at this
      simp [tmpB] at this
      omega
    have h1 : ((x.size : Int) == 0) = false := by simp [h0]
    clear h0 hl
    rw [e]
    go_enter Try.func8, Try.ntmps8
    go_wp2
    go_ret
    exact ⟨rfl, rfl⟩

/-- endsTmpOrEmpty, its answer named. -/
theorem ends_any (x : ByteArray) (hx : x.size ≤ 4194304) (b : Bool) (hb : endsB x.data.toList = b) (w : World) :
    Calls Try.prog 8 #[.string x] w fun e w' => e = .returned (.bool b) ∧ w' = w := by
  subst hb
  by_cases h : 4 ≤ x.size
  · exact ends_long x hx h w
  · exact ends_short x (by omega) w
end Go.Proofs.Qxb6612713a
