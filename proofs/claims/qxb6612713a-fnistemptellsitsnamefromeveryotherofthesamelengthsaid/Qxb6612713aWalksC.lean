/-
  THE WALKS of seat b6612713a, third part: the two laws.
-/
import Derived.Test.Qxb6612713aWalksB
namespace Go.Proofs.Qxb6612713a
open Go.RowKit

set_option maxHeartbeats 1000000 in
theorem tells_main (name other mid : ByteArray) (hs : name.size + other.size + mid.size ≤ 1048576) (l0 : name.size ≤ 262144) (_l1 : other.size ≤ 262144) (l2 : mid.size ≤ 262144) (he : other.size = name.size)
    (b : Bool) (hb : (other.toList == name.toList) = b) (w : World) :
    Calls Try.prog 3 #[.string name, .string other, .string mid] w fun e w' => e = .returned (.bool true) ∧ Grown w w' := by
  have k0 : name.size ≤ maxLen := by unfold maxLen; omega
  have k1 : other.size ≤ maxLen := by unfold maxLen; omega
  have k2 : mid.size ≤ maxLen := by unfold maxLen; omega
  have hts := tStr_size name mid
  have z0 : (tStr name mid).size ≤ 4194304 := by omega
  have z1 : name.size ≤ 4194304 := by omega
  have z2 : other.size ≤ 4194304 := by omega
  have z3 : (name ++ ⟨#[46, 116, 109, 112]⟩ : ByteArray).size ≤ 4194304 := by rw [tmp_size]; omega
  have E1 : Hid (tempB (tStr name mid).data.toList other.data.toList = b) := by
    rw [tStr_list, temp_other _ _ _ (by simpa using he), ← hb, ByteArray.toList_eq, ByteArray.toList_eq]
    unfold Hid; rw [Bool.eq_iff_iff]; simp
  have E2 : Hid (tempB (tStr name mid).data.toList name.data.toList = true) := by rw [tStr_list]; exact temp_own _ _
  have E3 : Hid (tempB name.data.toList name.data.toList = false) := temp_bare _
  have E4 : Hid (tempB (name ++ ⟨#[46, 116, 109, 112]⟩ : ByteArray).data.toList name.data.toList = false) := by rw [tmp_list]; exact temp_bareTmp _
  have HD : Hid (decide (name.size + other.size + mid.size ≤ 1048576) = true) := decide_eq_true hs
  have t0 : ¬ (262144 : Int) < (name.size : Int) := by omega
  have t1 : ¬ (262144 : Int) < (other.size : Int) := by omega
  have t2 : ¬ (262144 : Int) < (mid.size : Int) := by omega
  have t3 : ((other.size : Int) != (name.size : Int)) = false := by simp [he]
  have Z0 : Hid ((tStr name mid).size ≤ 4194304) := z0
  have Z3 : Hid ((name ++ ⟨#[46, 116, 109, 112]⟩ : ByteArray).size ≤ 4194304) := z3
  clear hs he hts z0 z3 l0 _l1 l2
  have tok1 : True := trivial
  have tok2 : True := trivial
  have tok3 : True := trivial
  go_enter Try.func3, Try.ntmps3
  go_wp2_with (first
    | (go_at_call 5; refine (b5 _ _ _ k0 k1 k2 _).mono ?_; rintro e wq ⟨rfl, hwq⟩; subst wq; rw [HD.out])
    | (go_at_call 6; have _t := tok1; refine (temp_any (tStr name mid) other Z0.out z2 b E1.out _).mono ?_; rintro e wq ⟨rfl, hwq⟩; subst wq; clear tok1)
    | (go_at_call 6; have _t := tok2; refine (temp_any (tStr name mid) name Z0.out z1 true E2.out _).mono ?_; rintro e wq ⟨rfl, hwq⟩; subst wq; clear tok2)
    | (go_at_call 6; have _t := tok3; refine (temp_any name name z1 z1 false E3.out _).mono ?_; rintro e wq ⟨rfl, hwq⟩; subst wq; clear tok3)
    | (go_at_call 6; refine (temp_any _ name Z3.out z1 false E4.out _).mono ?_; rintro e wq ⟨rfl, hwq⟩; subst wq))
  go_ret
  exact ⟨rfl, Grown.refl _⟩

set_option maxHeartbeats 1000000 in
theorem tells_far (name other mid : ByteArray) (k0 : name.size ≤ maxLen) (k1 : other.size ≤ maxLen) (k2 : mid.size ≤ maxLen) (hs : ¬ name.size + other.size + mid.size ≤ 1048576) (w : World) :
    Calls Try.prog 3 #[.string name, .string other, .string mid] w fun e w' => e = .returned (.bool true) ∧ Grown w w' := by
  have HD : Hid (decide (name.size + other.size + mid.size ≤ 1048576) = false) := decide_eq_false hs
  clear hs
  go_enter Try.func3, Try.ntmps3
  go_wp2_with (go_at_call 5; refine (b5 _ _ _ k0 k1 k2 _).mono ?_; rintro e wq ⟨rfl, hwq⟩; subst wq; rw [HD.out])
  go_ret
  exact ⟨rfl, Grown.refl _⟩

set_option maxHeartbeats 1000000 in
theorem tells_wide (name other mid : ByteArray) (hs : name.size + other.size + mid.size ≤ 1048576) (h : ¬ (name.size ≤ 262144 ∧ other.size ≤ 262144 ∧ mid.size ≤ 262144)) (w : World) :
    Calls Try.prog 3 #[.string name, .string other, .string mid] w fun e w' => e = .returned (.bool true) ∧ Grown w w' := by
  have k0 : name.size ≤ maxLen := by unfold maxLen; omega
  have k1 : other.size ≤ maxLen := by unfold maxLen; omega
  have k2 : mid.size ≤ maxLen := by unfold maxLen; omega
  have HD : Hid (decide (name.size + other.size + mid.size ≤ 1048576) = true) := decide_eq_true hs
  by_cases t0 : (262144 : Int) < (name.size : Int)
  · clear hs h
    go_enter Try.func3, Try.ntmps3
    go_wp2_with (go_at_call 5; refine (b5 _ _ _ k0 k1 k2 _).mono ?_; rintro e wq ⟨rfl, hwq⟩; subst wq; rw [HD.out])
    go_ret
    exact ⟨rfl, Grown.refl _⟩
  · by_cases t1 : (262144 : Int) < (other.size : Int)
    · clear hs h
      go_enter Try.func3, Try.ntmps3
      go_wp2_with (go_at_call 5; refine (b5 _ _ _ k0 k1 k2 _).mono ?_; rintro e wq ⟨rfl, hwq⟩; subst wq; rw [HD.out])
      go_ret
      exact ⟨rfl, Grown.refl _⟩
    · have t2 : (262144 : Int) < (mid.size : Int) := by omega
      clear hs h
      go_enter Try.func3, Try.ntmps3
      go_wp2_with (go_at_call 5; refine (b5 _ _ _ k0 k1 k2 _).mono ?_; rintro e wq ⟨rfl, hwq⟩; subst wq; rw [HD.out])
      go_ret
      exact ⟨rfl, Grown.refl _⟩

set_option maxHeartbeats 1000000 in
theorem tells_other (name other mid : ByteArray) (hs : name.size + other.size + mid.size ≤ 1048576) (h : name.size ≤ 262144 ∧ other.size ≤ 262144 ∧ mid.size ≤ 262144) (he : ¬ other.size = name.size) (w : World) :
    Calls Try.prog 3 #[.string name, .string other, .string mid] w fun e w' => e = .returned (.bool true) ∧ Grown w w' := by
  have k0 : name.size ≤ maxLen := by unfold maxLen; omega
  have k1 : other.size ≤ maxLen := by unfold maxLen; omega
  have k2 : mid.size ≤ maxLen := by unfold maxLen; omega
  have HD : Hid (decide (name.size + other.size + mid.size ≤ 1048576) = true) := decide_eq_true hs
  have t0 : ¬ (262144 : Int) < (name.size : Int) := by omega
  have t1 : ¬ (262144 : Int) < (other.size : Int) := by omega
  have t2 : ¬ (262144 : Int) < (mid.size : Int) := by omega
  have t3 : ((other.size : Int) != (name.size : Int)) = true := by
    rw [bne_iff_ne]; omega
  clear hs h he
  go_enter Try.func3, Try.ntmps3
  go_wp2_with (go_at_call 5; refine (b5 _ _ _ k0 k1 k2 _).mono ?_; rintro e wq ⟨rfl, hwq⟩; subst wq; rw [HD.out])
  go_ret
  exact ⟨rfl, Grown.refl _⟩

/-- THE FIRST LAW's WALK. -/
theorem tells_all (name other mid : ByteArray) (k0 : name.size ≤ maxLen) (k1 : other.size ≤ maxLen) (k2 : mid.size ≤ maxLen) (w : World) :
    Calls Try.prog 3 #[.string name, .string other, .string mid] w fun e w' => e = .returned (.bool true) ∧ Grown w w' := by
  by_cases hs : name.size + other.size + mid.size ≤ 1048576
  · by_cases h : name.size ≤ 262144 ∧ other.size ≤ 262144 ∧ mid.size ≤ 262144
    · by_cases he : other.size = name.size
      · exact tells_main name other mid hs h.1 h.2.1 h.2.2 he _ rfl w
      · exact tells_other name other mid hs h he w
    · exact tells_wide name other mid hs h w
  · exact tells_far name other mid k0 k1 k2 hs w
end Go.Proofs.Qxb6612713a
