import Derived.Test.Qxb6613957aRows
import Derived.Test.Qxb6613957aPlain
import Derived.WalkKit
import Derived.WalkSpells
import Derived.WalkLawsBesides
import Derived.Lib.SliceRun
import Derived.BigQuiet
import Derived.Deep.QuietTactic
set_option linter.unusedSimpArgs false
set_option linter.unusedVariables false
namespace Go.Proofs.Qxb6613957a
open Go.RowKit

theorem info5 : (Try.prog.info? 5).map (fun i => (i.zero, i.size, i.bytes)) = some (some (.int .u8 0), 1, 1) := by kernel_rfl

set_option maxHeartbeats 400000 in
/-- zzIsSpecial. -/
theorem special_any (c : UInt8) (w : World) :
    Calls Try.prog 31 #[.int .u8 c.toNat] w fun e w' => e = .returned (.bool (isSp c)) ∧ w' = w := by
  have e : ∀ k : UInt8, (c == k) = ((c.toNat : Int) == (k.toNat : Int)) := by
    intro k
    rw [Bool.eq_iff_iff]
    simp only [beq_iff_eq]
    constructor
    · intro h; rw [h]
    · intro h; exact UInt8.toNat_inj.1 (by omega)
  have h1 := e 36
  have h2 := e 96
  have h3 := e 34
  have h4 := e 92
  clear e
  unfold isSp
  rw [h1, h2, h3, h4]
  clear h1 h2 h3 h4
  generalize (c.toNat : Int) = n
  go_enter Try.func31, Try.ntmps31
  go_wp2
  all_goals
    go_ret
    simp [*]

set_option maxHeartbeats 400000 in
/-- zzBytes: the lengths fit. -/
theorem bytes_fit (a : Option Addr) (n c : Nat) (s : ByteArray) (q : Bool) (w : World) (h : n + s.size ≤ 1048576) :
    Calls Try.prog 26 #[.slice a n c, .string s, .bool q] w fun e w' => e = .returned (.bool true) ∧ w' = w := by
  go_enter Try.func26, Try.ntmps26
  go_wp2
  go_ret
  exact ⟨rfl, rfl⟩

set_option maxHeartbeats 400000 in
theorem bytes_not (a : Option Addr) (n c : Nat) (s : ByteArray) (q : Bool) (w : World) (hn : n ≤ maxLen) (hs : s.size ≤ maxLen) (h : ¬ n + s.size ≤ 1048576) :
    Calls Try.prog 26 #[.slice a n c, .string s, .bool q] w fun e w' => e = .returned (.bool false) ∧ w' = w := by
  unfold maxLen at hn hs
  by_cases h1 : n ≤ 1048576
  · by_cases h2 : s.size ≤ 1048576
    · go_enter Try.func26, Try.ntmps26
      go_wp2
      go_ret
      exact ⟨rfl, rfl⟩
    · go_enter Try.func26, Try.ntmps26
      go_wp2
      go_ret
      exact ⟨rfl, rfl⟩
  · go_enter Try.func26, Try.ntmps26
    go_wp2
    go_ret
    exact ⟨rfl, rfl⟩

end Go.Proofs.Qxb6613957a
