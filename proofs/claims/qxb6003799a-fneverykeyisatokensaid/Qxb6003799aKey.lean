import Derived.Test.Qxb6003799aRows
import Derived.WalkKit
import Derived.WalkSpells
import Derived.WalkLawsBesides
set_option linter.unusedSimpArgs false
set_option linter.unusedVariables false
namespace Go.Proofs.Qxb6003799a
open Go.RowKit

def lcB (c : Int) : Bool := decide (97 ≤ c) && decide (c ≤ 122)
def dgB (c : Int) : Bool := decide (48 ≤ c) && decide (c ≤ 57)
def ucB (c : Int) : Bool := decide (65 ≤ c) && decide (c ≤ 90)
def kcB (c : Int) : Bool := lcB c || dgB c || c == 95 || c == 45 || c == 46 || c == 42

set_option maxHeartbeats 400000 in
theorem isLC (c : Int) (w : World) :
    Calls Try.prog 17 #[.int .u8 c] w fun e w' => e = .returned (.bool (lcB c)) ∧ w' = w := by
  unfold lcB
  by_cases h1 : 97 ≤ c <;> by_cases h2 : c ≤ 122 <;> simp only [h1, h2, decide_true, decide_false, Bool.and_true, Bool.and_false, Bool.false_and]
  all_goals
    go_enter Try.func17, Try.ntmps17
    go_wp2
    go_ret
    exact ⟨rfl, rfl⟩

set_option maxHeartbeats 400000 in
theorem isDg (c : Int) (w : World) :
    Calls Try.prog 21 #[.int .u8 c] w fun e w' => e = .returned (.bool (dgB c)) ∧ w' = w := by
  unfold dgB
  by_cases h1 : 48 ≤ c <;> by_cases h2 : c ≤ 57 <;> simp only [h1, h2, decide_true, decide_false, Bool.and_true, Bool.and_false, Bool.false_and]
  all_goals
    go_enter Try.func21, Try.ntmps21
    go_wp2
    go_ret
    exact ⟨rfl, rfl⟩

theorem isLC' (c : Int) (w : World) (b : Bool) (h : lcB c = b) :
    Calls Try.prog 17 #[.int .u8 c] w fun e w' => e = .returned (.bool b) ∧ w' = w := by
  subst h; exact isLC c w
theorem isDg' (c : Int) (w : World) (b : Bool) (h : dgB c = b) :
    Calls Try.prog 21 #[.int .u8 c] w fun e w' => e = .returned (.bool b) ∧ w' = w := by
  subst h; exact isDg c w

set_option maxHeartbeats 400000 in
theorem isKC (c : Int) (w : World) :
    Calls Try.prog 18 #[.int .u8 c] w fun e w' => e = .returned (.bool (kcB c)) ∧ w' = w := by
  unfold kcB
  cases h1 : lcB c <;> cases h2 : dgB c
  all_goals
    go_enter Try.func18, Try.ntmps18
    go_wp2_with (first | (go_at_call 17; refine (isLC' c _ _ h1).mono ?_; rintro e w' ⟨rfl, rfl⟩) | (go_at_call 21; refine (isDg' c _ _ h2).mono ?_; rintro e w' ⟨rfl, rfl⟩))
  all_goals
    go_ret
    simp [*]
end Go.Proofs.Qxb6003799a
