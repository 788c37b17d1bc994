/-
  THE WALK OF FnIsDomainIDOverConcatenation, a case a way.
-/
import Derived.Test.Qxb6614456aDom
set_option linter.unusedSimpArgs false
set_option linter.unusedVariables false
namespace Go.Proofs.Qxb6614456a
open Go.RowKit

set_option maxHeartbeats 400000 in
theorem cc_long (a0 : ByteArray) (a1 : ByteArray) (w0 : a0.size ≤ maxLen) (w1 : a1.size ≤ maxLen) (w : World) (h : ¬ a0.size + a1.size ≤ 1048576) :
    Calls Try.prog 3 #[.string a0, .string a1] w fun e w' => e = .returned (.bool true) ∧ w = w' := by
  go_enter Try.func3, Try.ntmps3
  go_wp2_with (go_at_call 7; refine (bytes_not a0 a1 _ w0 w1 h).mono ?_; rintro e w' ⟨rfl, rfl⟩)
  go_ret
  exact ⟨rfl, rfl⟩

theorem dom_app (a b : ByteArray) : isDom (a ++ b).data.toList = (!(a.data.toList.isEmpty && b.data.toList.isEmpty) && !(a.data.toList.any sepB || b.data.toList.any sepB)) := by
  have e : (a ++ b).data.toList = a.data.toList ++ b.data.toList := by simp
  unfold isDom
  rw [e, List.any_append]
  cases a.data.toList <;> simp

theorem size_empty (s : ByteArray) (h : s.data.toList.isEmpty = true) : s.size = 0 := by
  cases hl : s.data.toList with
  | nil => have := congrArg List.length hl; simpa using this
  | cons a l => rw [hl] at h; cases h
theorem size_full (s : ByteArray) (h : s.data.toList.isEmpty = false) : 0 < s.size := by
  cases hl : s.data.toList with
  | nil => rw [hl] at h; cases h
  | cons a l => have := congrArg List.length hl; simp at this; have e : s.size = s.data.size := rfl; omega
theorem any_empty (s : ByteArray) (h : s.data.toList.isEmpty = true) : s.data.toList.any sepB = false := by
  cases hl : s.data.toList with
  | nil => rfl
  | cons a l => rw [hl] at h; cases h

set_option maxHeartbeats 400000 in
theorem cc_ttff (a0 a1 : ByteArray) (w : World) (h : a0.size + a1.size ≤ 1048576) (h0 : a0.data.toList.isEmpty = true) (h1 : a1.data.toList.isEmpty = true) (hA : a0.data.toList.any sepB = false) (hB : a1.data.toList.any sepB = false) :
    Calls Try.prog 3 #[.string a0, .string a1] w fun e w' => e = .returned (.bool true) ∧ w = w' := by
  have R : Hid (isDom (a0 ++ a1).data.toList = false) := by
    show isDom (a0 ++ a1).data.toList = _
    rw [dom_app, h0, h1, hA, hB]; rfl
  have R0 : Hid (isDom a0.data.toList = false) := by
    show isDom a0.data.toList = _
    unfold isDom; rw [h0, hA]; rfl
  have R1 : Hid (isDom a1.data.toList = false) := by
    show isDom a1.data.toList = _
    unfold isDom; rw [h1, hB]; rfl
  have HA : Hid (a0.data.toList.any sepB = false) := hA
  have HB : Hid (a1.data.toList.any sepB = false) := hB
  have s0 := size_empty a0 h0
  have s1 := size_empty a1 h1
  have t0 : a0.toList.isEmpty = true := by rw [ByteArray.toList_eq]; exact h0
  have t1 : a1.toList.isEmpty = true := by rw [ByteArray.toList_eq]; exact h1
  clear h0 h1 hA hB
  go_enter Try.func3, Try.ntmps3
  go_wp2_with (go_at_call 7; refine (bytes_fit a0 a1 _ h).mono ?_; rintro e w' ⟨rfl, rfl⟩)
  refine (zdom (a0 ++ a1) w _ R.out).mono ?_
  rintro e w' ⟨rfl, rfl⟩
  go_wp2_with fail
  refine (zdom a0 w _ R0.out).mono ?_
  rintro e w' ⟨rfl, rfl⟩
  go_wp2_with fail
  refine (zdom a1 w _ R1.out).mono ?_
  rintro e w' ⟨rfl, rfl⟩
  go_wp2
  go_ret
  exact ⟨rfl, rfl⟩

set_option maxHeartbeats 400000 in
theorem cc_tfff (a0 a1 : ByteArray) (w : World) (h : a0.size + a1.size ≤ 1048576) (h0 : a0.data.toList.isEmpty = true) (h1 : a1.data.toList.isEmpty = false) (hA : a0.data.toList.any sepB = false) (hB : a1.data.toList.any sepB = false) :
    Calls Try.prog 3 #[.string a0, .string a1] w fun e w' => e = .returned (.bool true) ∧ w = w' := by
  have R : Hid (isDom (a0 ++ a1).data.toList = true) := by
    show isDom (a0 ++ a1).data.toList = _
    rw [dom_app, h0, h1, hA, hB]; rfl
  have R0 : Hid (isDom a0.data.toList = false) := by
    show isDom a0.data.toList = _
    unfold isDom; rw [h0, hA]; rfl
  have R1 : Hid (isDom a1.data.toList = true) := by
    show isDom a1.data.toList = _
    unfold isDom; rw [h1, hB]; rfl
  have HA : Hid (a0.data.toList.any sepB = false) := hA
  have HB : Hid (a1.data.toList.any sepB = false) := hB
  have s0 := size_empty a0 h0
  have s1 := size_full a1 h1
  have t0 : a0.toList.isEmpty = true := by rw [ByteArray.toList_eq]; exact h0
  have t1 : a1.toList.isEmpty = false := by rw [ByteArray.toList_eq]; exact h1
  clear h0 h1 hA hB
  go_enter Try.func3, Try.ntmps3
  go_wp2_with (go_at_call 7; refine (bytes_fit a0 a1 _ h).mono ?_; rintro e w' ⟨rfl, rfl⟩)
  refine (zdom (a0 ++ a1) w _ R.out).mono ?_
  rintro e w' ⟨rfl, rfl⟩
  go_wp2_with fail
  refine (zdom a0 w _ R0.out).mono ?_
  rintro e w' ⟨rfl, rfl⟩
  go_wp2_with fail
  refine (zdom a1 w _ R1.out).mono ?_
  rintro e w' ⟨rfl, rfl⟩
  go_wp2_with fail
  refine (has_any a0 w (by omega) _ HA.out).mono ?_
  rintro e w' ⟨rfl, rfl⟩
  go_wp2_with fail
  refine (has_any a1 w (by omega) _ HB.out).mono ?_
  rintro e w' ⟨rfl, rfl⟩
  go_wp2
  go_ret
  exact ⟨rfl, rfl⟩

set_option maxHeartbeats 400000 in
theorem cc_tfft (a0 a1 : ByteArray) (w : World) (h : a0.size + a1.size ≤ 1048576) (h0 : a0.data.toList.isEmpty = true) (h1 : a1.data.toList.isEmpty = false) (hA : a0.data.toList.any sepB = false) (hB : a1.data.toList.any sepB = true) :
    Calls Try.prog 3 #[.string a0, .string a1] w fun e w' => e = .returned (.bool true) ∧ w = w' := by
  have R : Hid (isDom (a0 ++ a1).data.toList = false) := by
    show isDom (a0 ++ a1).data.toList = _
    rw [dom_app, h0, h1, hA, hB]; rfl
  have R0 : Hid (isDom a0.data.toList = false) := by
    show isDom a0.data.toList = _
    unfold isDom; rw [h0, hA]; rfl
  have R1 : Hid (isDom a1.data.toList = false) := by
    show isDom a1.data.toList = _
    unfold isDom; rw [h1, hB]; rfl
  have HA : Hid (a0.data.toList.any sepB = false) := hA
  have HB : Hid (a1.data.toList.any sepB = true) := hB
  have s0 := size_empty a0 h0
  have s1 := size_full a1 h1
  have t0 : a0.toList.isEmpty = true := by rw [ByteArray.toList_eq]; exact h0
  have t1 : a1.toList.isEmpty = false := by rw [ByteArray.toList_eq]; exact h1
  clear h0 h1 hA hB
  go_enter Try.func3, Try.ntmps3
  go_wp2_with (go_at_call 7; refine (bytes_fit a0 a1 _ h).mono ?_; rintro e w' ⟨rfl, rfl⟩)
  refine (zdom (a0 ++ a1) w _ R.out).mono ?_
  rintro e w' ⟨rfl, rfl⟩
  go_wp2_with fail
  refine (zdom a0 w _ R0.out).mono ?_
  rintro e w' ⟨rfl, rfl⟩
  go_wp2_with fail
  refine (zdom a1 w _ R1.out).mono ?_
  rintro e w' ⟨rfl, rfl⟩
  go_wp2_with fail
  refine (has_any a0 w (by omega) _ HA.out).mono ?_
  rintro e w' ⟨rfl, rfl⟩
  go_wp2_with fail
  refine (has_any a1 w (by omega) _ HB.out).mono ?_
  rintro e w' ⟨rfl, rfl⟩
  go_wp2
  go_ret
  exact ⟨rfl, rfl⟩

set_option maxHeartbeats 400000 in
theorem cc_ftff (a0 a1 : ByteArray) (w : World) (h : a0.size + a1.size ≤ 1048576) (h0 : a0.data.toList.isEmpty = false) (h1 : a1.data.toList.isEmpty = true) (hA : a0.data.toList.any sepB = false) (hB : a1.data.toList.any sepB = false) :
    Calls Try.prog 3 #[.string a0, .string a1] w fun e w' => e = .returned (.bool true) ∧ w = w' := by
  have R : Hid (isDom (a0 ++ a1).data.toList = true) := by
    show isDom (a0 ++ a1).data.toList = _
    rw [dom_app, h0, h1, hA, hB]; rfl
  have R0 : Hid (isDom a0.data.toList = true) := by
    show isDom a0.data.toList = _
    unfold isDom; rw [h0, hA]; rfl
  have R1 : Hid (isDom a1.data.toList = false) := by
    show isDom a1.data.toList = _
    unfold isDom; rw [h1, hB]; rfl
  have HA : Hid (a0.data.toList.any sepB = false) := hA
  have HB : Hid (a1.data.toList.any sepB = false) := hB
  have s0 := size_full a0 h0
  have s1 := size_empty a1 h1
  have t0 : a0.toList.isEmpty = false := by rw [ByteArray.toList_eq]; exact h0
  have t1 : a1.toList.isEmpty = true := by rw [ByteArray.toList_eq]; exact h1
  clear h0 h1 hA hB
  go_enter Try.func3, Try.ntmps3
  go_wp2_with (go_at_call 7; refine (bytes_fit a0 a1 _ h).mono ?_; rintro e w' ⟨rfl, rfl⟩)
  refine (zdom (a0 ++ a1) w _ R.out).mono ?_
  rintro e w' ⟨rfl, rfl⟩
  go_wp2_with fail
  refine (zdom a0 w _ R0.out).mono ?_
  rintro e w' ⟨rfl, rfl⟩
  go_wp2_with fail
  refine (zdom a1 w _ R1.out).mono ?_
  rintro e w' ⟨rfl, rfl⟩
  go_wp2_with fail
  refine (has_any a0 w (by omega) _ HA.out).mono ?_
  rintro e w' ⟨rfl, rfl⟩
  go_wp2_with fail
  refine (has_any a1 w (by omega) _ HB.out).mono ?_
  rintro e w' ⟨rfl, rfl⟩
  go_wp2
  go_ret
  exact ⟨rfl, rfl⟩

set_option maxHeartbeats 400000 in
theorem cc_fttf (a0 a1 : ByteArray) (w : World) (h : a0.size + a1.size ≤ 1048576) (h0 : a0.data.toList.isEmpty = false) (h1 : a1.data.toList.isEmpty = true) (hA : a0.data.toList.any sepB = true) (hB : a1.data.toList.any sepB = false) :
    Calls Try.prog 3 #[.string a0, .string a1] w fun e w' => e = .returned (.bool true) ∧ w = w' := by
  have R : Hid (isDom (a0 ++ a1).data.toList = false) := by
    show isDom (a0 ++ a1).data.toList = _
    rw [dom_app, h0, h1, hA, hB]; rfl
  have R0 : Hid (isDom a0.data.toList = false) := by
    show isDom a0.data.toList = _
    unfold isDom; rw [h0, hA]; rfl
  have R1 : Hid (isDom a1.data.toList = false) := by
    show isDom a1.data.toList = _
    unfold isDom; rw [h1, hB]; rfl
  have HA : Hid (a0.data.toList.any sepB = true) := hA
  have HB : Hid (a1.data.toList.any sepB = false) := hB
  have s0 := size_full a0 h0
  have s1 := size_empty a1 h1
  have t0 : a0.toList.isEmpty = false := by rw [ByteArray.toList_eq]; exact h0
  have t1 : a1.toList.isEmpty = true := by rw [ByteArray.toList_eq]; exact h1
  clear h0 h1 hA hB
  go_enter Try.func3, Try.ntmps3
  go_wp2_with (go_at_call 7; refine (bytes_fit a0 a1 _ h).mono ?_; rintro e w' ⟨rfl, rfl⟩)
  refine (zdom (a0 ++ a1) w _ R.out).mono ?_
  rintro e w' ⟨rfl, rfl⟩
  go_wp2_with fail
  refine (zdom a0 w _ R0.out).mono ?_
  rintro e w' ⟨rfl, rfl⟩
  go_wp2_with fail
  refine (zdom a1 w _ R1.out).mono ?_
  rintro e w' ⟨rfl, rfl⟩
  go_wp2_with fail
  refine (has_any a0 w (by omega) _ HA.out).mono ?_
  rintro e w' ⟨rfl, rfl⟩
  go_wp2
  go_ret
  exact ⟨rfl, rfl⟩

set_option maxHeartbeats 400000 in
theorem cc_ffff (a0 a1 : ByteArray) (w : World) (h : a0.size + a1.size ≤ 1048576) (h0 : a0.data.toList.isEmpty = false) (h1 : a1.data.toList.isEmpty = false) (hA : a0.data.toList.any sepB = false) (hB : a1.data.toList.any sepB = false) :
    Calls Try.prog 3 #[.string a0, .string a1] w fun e w' => e = .returned (.bool true) ∧ w = w' := by
  have R : Hid (isDom (a0 ++ a1).data.toList = true) := by
    show isDom (a0 ++ a1).data.toList = _
    rw [dom_app, h0, h1, hA, hB]; rfl
  have R0 : Hid (isDom a0.data.toList = true) := by
    show isDom a0.data.toList = _
    unfold isDom; rw [h0, hA]; rfl
  have R1 : Hid (isDom a1.data.toList = true) := by
    show isDom a1.data.toList = _
    unfold isDom; rw [h1, hB]; rfl
  have HA : Hid (a0.data.toList.any sepB = false) := hA
  have HB : Hid (a1.data.toList.any sepB = false) := hB
  have s0 := size_full a0 h0
  have s1 := size_full a1 h1
  have t0 : a0.toList.isEmpty = false := by rw [ByteArray.toList_eq]; exact h0
  have t1 : a1.toList.isEmpty = false := by rw [ByteArray.toList_eq]; exact h1
  clear h0 h1 hA hB
  go_enter Try.func3, Try.ntmps3
  go_wp2_with (go_at_call 7; refine (bytes_fit a0 a1 _ h).mono ?_; rintro e w' ⟨rfl, rfl⟩)
  refine (zdom (a0 ++ a1) w _ R.out).mono ?_
  rintro e w' ⟨rfl, rfl⟩
  go_wp2_with fail
  refine (zdom a0 w _ R0.out).mono ?_
  rintro e w' ⟨rfl, rfl⟩
  go_wp2_with fail
  refine (zdom a1 w _ R1.out).mono ?_
  rintro e w' ⟨rfl, rfl⟩
  go_wp2_with fail
  refine (has_any a0 w (by omega) _ HA.out).mono ?_
  rintro e w' ⟨rfl, rfl⟩
  go_wp2_with fail
  refine (has_any a1 w (by omega) _ HB.out).mono ?_
  rintro e w' ⟨rfl, rfl⟩
  go_wp2
  go_ret
  exact ⟨rfl, rfl⟩

set_option maxHeartbeats 400000 in
theorem cc_ffft (a0 a1 : ByteArray) (w : World) (h : a0.size + a1.size ≤ 1048576) (h0 : a0.data.toList.isEmpty = false) (h1 : a1.data.toList.isEmpty = false) (hA : a0.data.toList.any sepB = false) (hB : a1.data.toList.any sepB = true) :
    Calls Try.prog 3 #[.string a0, .string a1] w fun e w' => e = .returned (.bool true) ∧ w = w' := by
  have R : Hid (isDom (a0 ++ a1).data.toList = false) := by
    show isDom (a0 ++ a1).data.toList = _
    rw [dom_app, h0, h1, hA, hB]; rfl
  have R0 : Hid (isDom a0.data.toList = true) := by
    show isDom a0.data.toList = _
    unfold isDom; rw [h0, hA]; rfl
  have R1 : Hid (isDom a1.data.toList = false) := by
    show isDom a1.data.toList = _
    unfold isDom; rw [h1, hB]; rfl
  have HA : Hid (a0.data.toList.any sepB = false) := hA
  have HB : Hid (a1.data.toList.any sepB = true) := hB
  have s0 := size_full a0 h0
  have s1 := size_full a1 h1
  have t0 : a0.toList.isEmpty = false := by rw [ByteArray.toList_eq]; exact h0
  have t1 : a1.toList.isEmpty = false := by rw [ByteArray.toList_eq]; exact h1
  clear h0 h1 hA hB
  go_enter Try.func3, Try.ntmps3
  go_wp2_with (go_at_call 7; refine (bytes_fit a0 a1 _ h).mono ?_; rintro e w' ⟨rfl, rfl⟩)
  refine (zdom (a0 ++ a1) w _ R.out).mono ?_
  rintro e w' ⟨rfl, rfl⟩
  go_wp2_with fail
  refine (zdom a0 w _ R0.out).mono ?_
  rintro e w' ⟨rfl, rfl⟩
  go_wp2_with fail
  refine (zdom a1 w _ R1.out).mono ?_
  rintro e w' ⟨rfl, rfl⟩
  go_wp2_with fail
  refine (has_any a0 w (by omega) _ HA.out).mono ?_
  rintro e w' ⟨rfl, rfl⟩
  go_wp2_with fail
  refine (has_any a1 w (by omega) _ HB.out).mono ?_
  rintro e w' ⟨rfl, rfl⟩
  go_wp2
  go_ret
  exact ⟨rfl, rfl⟩

set_option maxHeartbeats 400000 in
theorem cc_fftf (a0 a1 : ByteArray) (w : World) (h : a0.size + a1.size ≤ 1048576) (h0 : a0.data.toList.isEmpty = false) (h1 : a1.data.toList.isEmpty = false) (hA : a0.data.toList.any sepB = true) (hB : a1.data.toList.any sepB = false) :
    Calls Try.prog 3 #[.string a0, .string a1] w fun e w' => e = .returned (.bool true) ∧ w = w' := by
  have R : Hid (isDom (a0 ++ a1).data.toList = false) := by
    show isDom (a0 ++ a1).data.toList = _
    rw [dom_app, h0, h1, hA, hB]; rfl
  have R0 : Hid (isDom a0.data.toList = false) := by
    show isDom a0.data.toList = _
    unfold isDom; rw [h0, hA]; rfl
  have R1 : Hid (isDom a1.data.toList = true) := by
    show isDom a1.data.toList = _
    unfold isDom; rw [h1, hB]; rfl
  have HA : Hid (a0.data.toList.any sepB = true) := hA
  have HB : Hid (a1.data.toList.any sepB = false) := hB
  have s0 := size_full a0 h0
  have s1 := size_full a1 h1
  have t0 : a0.toList.isEmpty = false := by rw [ByteArray.toList_eq]; exact h0
  have t1 : a1.toList.isEmpty = false := by rw [ByteArray.toList_eq]; exact h1
  clear h0 h1 hA hB
  go_enter Try.func3, Try.ntmps3
  go_wp2_with (go_at_call 7; refine (bytes_fit a0 a1 _ h).mono ?_; rintro e w' ⟨rfl, rfl⟩)
  refine (zdom (a0 ++ a1) w _ R.out).mono ?_
  rintro e w' ⟨rfl, rfl⟩
  go_wp2_with fail
  refine (zdom a0 w _ R0.out).mono ?_
  rintro e w' ⟨rfl, rfl⟩
  go_wp2_with fail
  refine (zdom a1 w _ R1.out).mono ?_
  rintro e w' ⟨rfl, rfl⟩
  go_wp2_with fail
  refine (has_any a0 w (by omega) _ HA.out).mono ?_
  rintro e w' ⟨rfl, rfl⟩
  go_wp2
  go_ret
  exact ⟨rfl, rfl⟩

set_option maxHeartbeats 400000 in
theorem cc_fftt (a0 a1 : ByteArray) (w : World) (h : a0.size + a1.size ≤ 1048576) (h0 : a0.data.toList.isEmpty = false) (h1 : a1.data.toList.isEmpty = false) (hA : a0.data.toList.any sepB = true) (hB : a1.data.toList.any sepB = true) :
    Calls Try.prog 3 #[.string a0, .string a1] w fun e w' => e = .returned (.bool true) ∧ w = w' := by
  have R : Hid (isDom (a0 ++ a1).data.toList = false) := by
    show isDom (a0 ++ a1).data.toList = _
    rw [dom_app, h0, h1, hA, hB]; rfl
  have R0 : Hid (isDom a0.data.toList = false) := by
    show isDom a0.data.toList = _
    unfold isDom; rw [h0, hA]; rfl
  have R1 : Hid (isDom a1.data.toList = false) := by
    show isDom a1.data.toList = _
    unfold isDom; rw [h1, hB]; rfl
  have HA : Hid (a0.data.toList.any sepB = true) := hA
  have HB : Hid (a1.data.toList.any sepB = true) := hB
  have s0 := size_full a0 h0
  have s1 := size_full a1 h1
  have t0 : a0.toList.isEmpty = false := by rw [ByteArray.toList_eq]; exact h0
  have t1 : a1.toList.isEmpty = false := by rw [ByteArray.toList_eq]; exact h1
  clear h0 h1 hA hB
  go_enter Try.func3, Try.ntmps3
  go_wp2_with (go_at_call 7; refine (bytes_fit a0 a1 _ h).mono ?_; rintro e w' ⟨rfl, rfl⟩)
  refine (zdom (a0 ++ a1) w _ R.out).mono ?_
  rintro e w' ⟨rfl, rfl⟩
  go_wp2_with fail
  refine (zdom a0 w _ R0.out).mono ?_
  rintro e w' ⟨rfl, rfl⟩
  go_wp2_with fail
  refine (zdom a1 w _ R1.out).mono ?_
  rintro e w' ⟨rfl, rfl⟩
  go_wp2_with fail
  refine (has_any a0 w (by omega) _ HA.out).mono ?_
  rintro e w' ⟨rfl, rfl⟩
  go_wp2
  go_ret
  exact ⟨rfl, rfl⟩

theorem cc_any (a0 : ByteArray) (a1 : ByteArray) (w0 : a0.size ≤ maxLen) (w1 : a1.size ≤ maxLen) (w : World) :
    Calls Try.prog 3 #[.string a0, .string a1] w fun e w' => e = .returned (.bool true) ∧ w = w' := by
  by_cases h : a0.size + a1.size ≤ 1048576
  · cases h0 : a0.data.toList.isEmpty <;> cases h1 : a1.data.toList.isEmpty
    · cases hA : a0.data.toList.any sepB <;> cases hB : a1.data.toList.any sepB
      · exact cc_ffff a0 a1 w h h0 h1 hA hB
      · exact cc_ffft a0 a1 w h h0 h1 hA hB
      · exact cc_fftf a0 a1 w h h0 h1 hA hB
      · exact cc_fftt a0 a1 w h h0 h1 hA hB
    · cases hA : a0.data.toList.any sepB
      · exact cc_ftff a0 a1 w h h0 h1 hA (any_empty a1 h1)
      · exact cc_fttf a0 a1 w h h0 h1 hA (any_empty a1 h1)
    · cases hB : a1.data.toList.any sepB
      · exact cc_tfff a0 a1 w h h0 h1 (any_empty a0 h0) hB
      · exact cc_tfft a0 a1 w h h0 h1 (any_empty a0 h0) hB
    · exact cc_ttff a0 a1 w h h0 h1 (any_empty a0 h0) (any_empty a1 h1)
  · exact cc_long a0 a1 w0 w1 w h

end Go.Proofs.Qxb6614456a
