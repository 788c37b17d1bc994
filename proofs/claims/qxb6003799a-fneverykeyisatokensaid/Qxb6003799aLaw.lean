/-
  THE WALK OF FnEveryKeyIsAToken.
-/
import Derived.Test.Qxb6003799aTok
set_option linter.unusedSimpArgs false
set_option linter.unusedVariables false
namespace Go.Proofs.Qxb6003799a
open Go.RowKit

set_option maxHeartbeats 400000 in
theorem bytes_fit (a : ByteArray) (w : World) (h : a.size ≤ 1048576) :
    Calls Try.prog 7 #[.string a] w fun e w' => e = .returned (.bool true) ∧ w = w' := by
  go_enter Try.func7, Try.ntmps7
  go_wp2
  go_ret
  exact ⟨rfl, rfl⟩

set_option maxHeartbeats 400000 in
theorem bytes_not (a : ByteArray) (w : World) (ha : a.size ≤ maxLen) (h : ¬ a.size ≤ 1048576) :
    Calls Try.prog 7 #[.string a] w fun e w' => e = .returned (.bool false) ∧ w = w' := by
  unfold maxLen at ha
  go_enter Try.func7, Try.ntmps7
  go_wp2
  go_ret
  exact ⟨rfl, rfl⟩

set_option maxHeartbeats 400000 in
theorem zkey (s : ByteArray) (w : World) (hs : s.size ≤ 1048576) :
    Calls Try.prog 8 #[.string s] w fun e w' => KeyRes s w e w' := by
  go_enter Try.func8, Try.ntmps8
  go_wp2_with fail
  refine (key_any s w hs).mono ?_
  rintro e w' ⟨r, rfl, hr, rfl⟩
  go_wp2
  go_ret
  exact ⟨r, rfl, hr, rfl⟩

set_option maxHeartbeats 400000 in
theorem ztoken (s : ByteArray) (w : World) (hs : s.size ≤ 1048576) (hK : KeyOk s) :
    Calls Try.prog 9 #[.string s] w fun e w' => e = .returned (.bool true) ∧ w = w' := by
  go_enter Try.func9, Try.ntmps9
  go_wp2_with (go_at_call 16; refine (token_yes s _ hs hK).mono ?_; rintro e w' ⟨rfl, rfl⟩)
  go_ret
  exact ⟨rfl, rfl⟩

set_option maxHeartbeats 400000 in
theorem law_any (s : ByteArray) (w0 : s.size ≤ maxLen) (w : World) :
    Calls Try.prog 3 #[.string s] w fun e w' => e = .returned (.bool true) ∧ w = w' := by
  by_cases h : s.size ≤ 1048576
  · go_enter Try.func3, Try.ntmps3
    go_wp2_with (go_at_call 7; refine (bytes_fit s _ h).mono ?_; rintro e w' ⟨rfl, rfl⟩)
    refine (zkey s w h).mono ?_
    rintro e w' ⟨r, rfl, hr, rfl⟩
    cases r with
    | false =>
      clear hr
      go_wp2
      go_ret
      exact ⟨rfl, rfl⟩
    | true =>
      have HK := hr rfl
      clear hr
      go_wp2_with (go_at_call 9; refine (ztoken s _ h HK).mono ?_; rintro e w' ⟨rfl, rfl⟩)
      go_ret
      exact ⟨rfl, rfl⟩
  · go_enter Try.func3, Try.ntmps3
    go_wp2_with (go_at_call 7; refine (bytes_not s _ w0 h).mono ?_; rintro e w' ⟨rfl, rfl⟩)
    go_ret
    exact ⟨rfl, rfl⟩

theorem law_below (s : ByteArray) (w0 : s.size ≤ maxLen) (w : World) :
    Calls Try.prog 3 #[.string s] w fun e w' => e = .returned (.bool true) ∧ Below w.heap.size w w' := by
  refine (law_any s w0 w).mono ?_
  rintro e w' ⟨rfl, rfl⟩
  exact ⟨rfl, Below.refl _ _⟩

end Go.Proofs.Qxb6003799a
