/-
  THE WALKS of seat b6612713a, fourth part: the second law.
-/
import Derived.Test.Qxb6612713aWalksB
namespace Go.Proofs.Qxb6612713a
open Go.RowKit

set_option maxHeartbeats 1000000 in
theorem stays_main (name mid x : ByteArray) (hs : name.size + mid.size + x.size ≤ 1048576) (h : name.size ≤ 262144 ∧ mid.size ≤ 262144 ∧ x.size ≤ 262144) (b : Bool) (hb : endsB x.data.toList = b) (w : World) :
    Calls Try.prog 4 #[.string name, .string mid, .string x] w fun e w' => e = .returned (.bool true) ∧ Grown w w' := by
  obtain ⟨l0, l1, l2⟩ := h
  have k0 : name.size ≤ maxLen := by unfold maxLen; omega
  have k1 : mid.size ≤ maxLen := by unfold maxLen; omega
  have k2 : x.size ≤ maxLen := by unfold maxLen; omega
  have hts := tStr_size name mid
  have z1 : name.size ≤ 4194304 := by omega
  have z2 : x.size ≤ 4194304 := by omega
  have Z0 : Hid ((tStr name mid).size ≤ 4194304) := (show (tStr name mid).size ≤ 4194304 by omega)
  have Z1 : Hid ((tStr name mid ++ x).size ≤ 4194304) := (show (tStr name mid ++ x).size ≤ 4194304 by rw [ByteArray.size_append]; omega)
  have Z2 : Hid ((tStr name mid ++ x ++ ⟨#[46, 116, 109, 112]⟩ : ByteArray).size ≤ 4194304) := (show (tStr name mid ++ x ++ ⟨#[46, 116, 109, 112]⟩ : ByteArray).size ≤ 4194304 by rw [tmp_size, ByteArray.size_append]; omega)
  have E1 : Hid (tempB (tStr name mid).data.toList name.data.toList = true) := by rw [tStr_list]; exact temp_own _ _
  have E2 : Hid (tempB (tStr name mid ++ x).data.toList name.data.toList = b) := by rw [app_list, tStr_list, temp_more]; exact hb
  have E3 : Hid (tempB (tStr name mid ++ x ++ ⟨#[46, 116, 109, 112]⟩ : ByteArray).data.toList name.data.toList = true) := by rw [tmp_list, app_list, tStr_list]; exact temp_moreTmp _ _ _
  have E4 : Hid (endsB x.data.toList = b) := hb
  have HD : Hid (decide (name.size + mid.size + x.size ≤ 1048576) = true) := decide_eq_true hs
  have t0 : ¬ (262144 : Int) < (name.size : Int) := by omega
  have t1 : ¬ (262144 : Int) < (mid.size : Int) := by omega
  have t2 : ¬ (262144 : Int) < (x.size : Int) := by omega
  clear hs hts l0 l1 l2 hb
  have Y0 : Hid ((⟨#[46]⟩ ++ name ++ ⟨#[46]⟩ ++ mid ++ ⟨#[46, 116, 109, 112]⟩ : ByteArray).size ≤ 4194304) := Z0
  have Y1 : Hid ((⟨#[46]⟩ ++ name ++ ⟨#[46]⟩ ++ mid ++ ⟨#[46, 116, 109, 112]⟩ ++ x : ByteArray).size ≤ 4194304) := Z1
  have Y2 : Hid ((⟨#[46]⟩ ++ name ++ ⟨#[46]⟩ ++ mid ++ ⟨#[46, 116, 109, 112]⟩ ++ x ++ ⟨#[46, 116, 109, 112]⟩ : ByteArray).size ≤ 4194304) := Z2
  have F1 : Hid (tempB (⟨#[46]⟩ ++ name ++ ⟨#[46]⟩ ++ mid ++ ⟨#[46, 116, 109, 112]⟩ : ByteArray).data.toList name.data.toList = true) := E1
  have F2 : Hid (tempB (⟨#[46]⟩ ++ name ++ ⟨#[46]⟩ ++ mid ++ ⟨#[46, 116, 109, 112]⟩ ++ x : ByteArray).data.toList name.data.toList = b) := E2
  have F3 : Hid (tempB (⟨#[46]⟩ ++ name ++ ⟨#[46]⟩ ++ mid ++ ⟨#[46, 116, 109, 112]⟩ ++ x ++ ⟨#[46, 116, 109, 112]⟩ : ByteArray).data.toList name.data.toList = true) := E3
  clear Z0 Z1 Z2 E1 E2 E3
  have tok1 : True := trivial
  have tok2 : True := trivial
  go_enter Try.func4, Try.ntmps4
  go_wp2_with (first
    | (go_at_call 7; refine (b7 _ _ _ k0 k1 k2 _).mono ?_; rintro e wq ⟨rfl, hwq⟩; subst wq; rw [HD.out])
    | (go_at_call 8; refine (ends_any x z2 b E4.out _).mono ?_; rintro e wq ⟨rfl, hwq⟩; subst wq)
    | (go_at_call 6; have _t := tok1; refine (temp_any _ name Y0.out z1 true F1.out _).mono ?_; rintro e wq ⟨rfl, hwq⟩; subst wq; clear tok1)
    | (go_at_call 6; have _t := tok2; refine (temp_any _ name Y1.out z1 b F2.out _).mono ?_; rintro e wq ⟨rfl, hwq⟩; subst wq; clear tok2)
    | (go_at_call 6; refine (temp_any _ name Y2.out z1 true F3.out _).mono ?_; rintro e wq ⟨rfl, hwq⟩; subst wq))
  go_ret
  exact ⟨rfl, Grown.refl _⟩

set_option maxHeartbeats 1000000 in
theorem stays_far (name mid x : ByteArray) (k0 : name.size ≤ maxLen) (k1 : mid.size ≤ maxLen) (k2 : x.size ≤ maxLen) (hs : ¬ name.size + mid.size + x.size ≤ 1048576) (w : World) :
    Calls Try.prog 4 #[.string name, .string mid, .string x] w fun e w' => e = .returned (.bool true) ∧ Grown w w' := by
  have HD : Hid (decide (name.size + mid.size + x.size ≤ 1048576) = false) := decide_eq_false hs
  clear hs
  go_enter Try.func4, Try.ntmps4
  go_wp2_with (go_at_call 7; refine (b7 _ _ _ k0 k1 k2 _).mono ?_; rintro e wq ⟨rfl, hwq⟩; subst wq; rw [HD.out])
  go_ret
  exact ⟨rfl, Grown.refl _⟩

set_option maxHeartbeats 1000000 in
theorem stays_wide (name mid x : ByteArray) (hs : name.size + mid.size + x.size ≤ 1048576) (h : ¬ (name.size ≤ 262144 ∧ mid.size ≤ 262144 ∧ x.size ≤ 262144)) (w : World) :
    Calls Try.prog 4 #[.string name, .string mid, .string x] w fun e w' => e = .returned (.bool true) ∧ Grown w w' := by
  have k0 : name.size ≤ maxLen := by unfold maxLen; omega
  have k1 : mid.size ≤ maxLen := by unfold maxLen; omega
  have k2 : x.size ≤ maxLen := by unfold maxLen; omega
  have HD : Hid (decide (name.size + mid.size + x.size ≤ 1048576) = true) := decide_eq_true hs
  by_cases t0 : (262144 : Int) < (name.size : Int)
  · clear hs h
    go_enter Try.func4, Try.ntmps4
    go_wp2_with (go_at_call 7; refine (b7 _ _ _ k0 k1 k2 _).mono ?_; rintro e wq ⟨rfl, hwq⟩; subst wq; rw [HD.out])
    go_ret
    exact ⟨rfl, Grown.refl _⟩
  · by_cases t1 : (262144 : Int) < (mid.size : Int)
    · clear hs h
      go_enter Try.func4, Try.ntmps4
      go_wp2_with (go_at_call 7; refine (b7 _ _ _ k0 k1 k2 _).mono ?_; rintro e wq ⟨rfl, hwq⟩; subst wq; rw [HD.out])
      go_ret
      exact ⟨rfl, Grown.refl _⟩
    · have t2 : (262144 : Int) < (x.size : Int) := by omega
      clear hs h
      go_enter Try.func4, Try.ntmps4
      go_wp2_with (go_at_call 7; refine (b7 _ _ _ k0 k1 k2 _).mono ?_; rintro e wq ⟨rfl, hwq⟩; subst wq; rw [HD.out])
      go_ret
      exact ⟨rfl, Grown.refl _⟩

/-- THE SECOND LAW's WALK. -/
theorem stays_all (name mid x : ByteArray) (k0 : name.size ≤ maxLen) (k1 : mid.size ≤ maxLen) (k2 : x.size ≤ maxLen) (w : World) :
    Calls Try.prog 4 #[.string name, .string mid, .string x] w fun e w' => e = .returned (.bool true) ∧ Grown w w' := by
  by_cases hs : name.size + mid.size + x.size ≤ 1048576
  · by_cases h : name.size ≤ 262144 ∧ mid.size ≤ 262144 ∧ x.size ≤ 262144
    · exact stays_main name mid x hs h _ rfl w
    · exact stays_wide name mid x hs h w
  · exact stays_far name mid x k0 k1 k2 hs w
end Go.Proofs.Qxb6612713a
