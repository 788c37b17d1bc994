/-
  THE WALK OF FnIsDomainIDAfterStrippingSeparators, a case a way.
-/
import Derived.Test.Qxb6614456aStrip
set_option linter.unusedSimpArgs false
set_option linter.unusedVariables false
namespace Go.Proofs.Qxb6614456a
open Go.RowKit

theorem keep_any (l : List UInt8) : (keepL l).any sepB = false := by
  unfold keepL
  rw [List.any_eq_false]
  intro x hx
  have := (List.mem_filter.1 hx).2
  simpa using this

theorem dom_keep (l : List UInt8) : isDom (keepL l) = !(keepL l).isEmpty := by
  unfold isDom; rw [keep_any]; simp

theorem keep_same (l : List UInt8) (h : l.any sepB = false) : keepL l = l := by
  unfold keepL
  rw [List.filter_eq_self]
  intro a ha
  have := List.any_eq_false.1 h a ha
  simpa using this

theorem keep_less (l : List UInt8) (h : l.any sepB = true) : (keepL l).length < l.length := by
  rcases Nat.lt_or_ge (keepL l).length l.length with h' | h'
  · exact h'
  · have e : (keepL l).length = l.length := Nat.le_antisymm (keep_le l) h'
    have e2 : ∀ a ∈ l, (!sepB a) = true := by
      have := List.length_filter_eq_length_iff.1 e
      exact this
    obtain ⟨a, ha, hs⟩ := List.any_eq_true.1 h
    have := e2 a ha
    rw [hs] at this
    cases this

set_option maxHeartbeats 400000 in
theorem st_long (s : ByteArray) (w0 : s.size ≤ maxLen) (w : World) (h : ¬ s.size ≤ 1048576) :
    Calls Try.prog 4 #[.string s] w fun e w' => e = .returned (.bool true) ∧ Below w.heap.size w w' := by
  go_enter Try.func4, Try.ntmps4
  go_wp2_with (go_at_call 10; refine (bytes1_not s _ w0 h).mono ?_; rintro e w' ⟨rfl, rfl⟩)
  go_ret
  exact ⟨rfl, Below.refl _ _⟩

set_option maxHeartbeats 400000 in
theorem st_empty (s : ByteArray) (F : List UInt8) (w : World) (h : s.size ≤ 1048576) (hF : keepL s.data.toList = F) (rF : isDom F = false) (tF : F.isEmpty = true) (rS : isDom s.data.toList = false) (tS : s.toList.isEmpty = true) (hl : F.length = s.size) :
    Calls Try.prog 4 #[.string s] w fun e w' => e = .returned (.bool true) ∧ Below w.heap.size w w' := by
  have HF : Hid (keepL s.data.toList = F) := hF
  have RF : Hid (isDom (ByteArray.mk F.toArray).data.toList = false) := rF
  have RS : Hid (isDom s.data.toList = false) := rS
  have h2 : ((F.length : Int) == (s.size : Int)) = true := by simp only [beq_iff_eq]; omega
  clear hF rF rS hl
  go_enter Try.func4, Try.ntmps4
  go_wp2_with (go_at_call 10; refine (bytes1_fit s _ h).mono ?_; rintro e w' ⟨rfl, rfl⟩)
  refine (strip_any s w h F HF.out).mono ?_
  rintro e w1 ⟨rfl, hb⟩
  go_wp2_with fail
  refine (zdom (ByteArray.mk F.toArray) w1 _ RF.out).mono ?_
  rintro e w' ⟨rfl, rfl⟩
  go_wp2_with fail
  refine (zdom s w1 _ RS.out).mono ?_
  rintro e w' ⟨rfl, rfl⟩
  go_wp2
  go_ret
  exact ⟨rfl, hb⟩

set_option maxHeartbeats 400000 in
theorem st_clean (s : ByteArray) (F : List UInt8) (w : World) (h : s.size ≤ 1048576) (hF : keepL s.data.toList = F) (rF : isDom F = true) (tF : F.isEmpty = false) (rS : isDom s.data.toList = true) (tS : s.toList.isEmpty = false) (hl : F.length = s.size) :
    Calls Try.prog 4 #[.string s] w fun e w' => e = .returned (.bool true) ∧ Below w.heap.size w w' := by
  have HF : Hid (keepL s.data.toList = F) := hF
  have RF : Hid (isDom (ByteArray.mk F.toArray).data.toList = true) := rF
  have RS : Hid (isDom s.data.toList = true) := rS
  have h2 : ((F.length : Int) == (s.size : Int)) = true := by simp only [beq_iff_eq]; omega
  clear hF rF rS hl
  go_enter Try.func4, Try.ntmps4
  go_wp2_with (go_at_call 10; refine (bytes1_fit s _ h).mono ?_; rintro e w' ⟨rfl, rfl⟩)
  refine (strip_any s w h F HF.out).mono ?_
  rintro e w1 ⟨rfl, hb⟩
  go_wp2_with fail
  refine (zdom (ByteArray.mk F.toArray) w1 _ RF.out).mono ?_
  rintro e w' ⟨rfl, rfl⟩
  go_wp2_with fail
  refine (zdom s w1 _ RS.out).mono ?_
  rintro e w' ⟨rfl, rfl⟩
  go_wp2
  go_ret
  exact ⟨rfl, hb⟩

set_option maxHeartbeats 400000 in
theorem st_some (s : ByteArray) (F : List UInt8) (w : World) (h : s.size ≤ 1048576) (hF : keepL s.data.toList = F) (rF : isDom F = true) (tF : F.isEmpty = false) (rS : isDom s.data.toList = false) (tS : s.toList.isEmpty = false) (hl : F.length < s.size) :
    Calls Try.prog 4 #[.string s] w fun e w' => e = .returned (.bool true) ∧ Below w.heap.size w w' := by
  have HF : Hid (keepL s.data.toList = F) := hF
  have RF : Hid (isDom (ByteArray.mk F.toArray).data.toList = true) := rF
  have RS : Hid (isDom s.data.toList = false) := rS
  have h2 : ((F.length : Int) == (s.size : Int)) = false := by simp only [beq_eq_false_iff_ne]; omega
  clear hF rF rS hl
  go_enter Try.func4, Try.ntmps4
  go_wp2_with (go_at_call 10; refine (bytes1_fit s _ h).mono ?_; rintro e w' ⟨rfl, rfl⟩)
  refine (strip_any s w h F HF.out).mono ?_
  rintro e w1 ⟨rfl, hb⟩
  go_wp2_with fail
  refine (zdom (ByteArray.mk F.toArray) w1 _ RF.out).mono ?_
  rintro e w' ⟨rfl, rfl⟩
  go_wp2_with fail
  refine (zdom s w1 _ RS.out).mono ?_
  rintro e w' ⟨rfl, rfl⟩
  go_wp2
  go_ret
  exact ⟨rfl, hb⟩

set_option maxHeartbeats 400000 in
theorem st_none (s : ByteArray) (F : List UInt8) (w : World) (h : s.size ≤ 1048576) (hF : keepL s.data.toList = F) (rF : isDom F = false) (tF : F.isEmpty = true) (rS : isDom s.data.toList = false) (tS : s.toList.isEmpty = false) (hl : F.length < s.size) :
    Calls Try.prog 4 #[.string s] w fun e w' => e = .returned (.bool true) ∧ Below w.heap.size w w' := by
  have HF : Hid (keepL s.data.toList = F) := hF
  have RF : Hid (isDom (ByteArray.mk F.toArray).data.toList = false) := rF
  have RS : Hid (isDom s.data.toList = false) := rS
  have h2 : ((F.length : Int) == (s.size : Int)) = false := by simp only [beq_eq_false_iff_ne]; omega
  clear hF rF rS hl
  go_enter Try.func4, Try.ntmps4
  go_wp2_with (go_at_call 10; refine (bytes1_fit s _ h).mono ?_; rintro e w' ⟨rfl, rfl⟩)
  refine (strip_any s w h F HF.out).mono ?_
  rintro e w1 ⟨rfl, hb⟩
  go_wp2_with fail
  refine (zdom (ByteArray.mk F.toArray) w1 _ RF.out).mono ?_
  rintro e w' ⟨rfl, rfl⟩
  go_wp2_with fail
  refine (zdom s w1 _ RS.out).mono ?_
  rintro e w' ⟨rfl, rfl⟩
  go_wp2
  go_ret
  exact ⟨rfl, hb⟩

theorem st_any (s : ByteArray) (w0 : s.size ≤ maxLen) (w : World) :
    Calls Try.prog 4 #[.string s] w fun e w' => e = .returned (.bool true) ∧ Below w.heap.size w w' := by
  by_cases h : s.size ≤ 1048576
  · have hd := dom_keep s.data.toList
    by_cases hz : s.size = 0
    · have := empty_of_size s hz
      subst this
      exact st_empty ⟨#[]⟩ [] w h rfl rfl rfl rfl (by rw [ByteArray.toList_eq]; rfl) rfl
    · have ht := toList_full s hz
      have hf : s.data.toList.isEmpty = false := by rw [← ByteArray.toList_eq]; exact ht
      have e0 : isDom s.data.toList = !s.data.toList.any sepB := by unfold isDom; rw [hf]; simp
      have hsz : s.data.toList.length = s.size := by simp
      cases ha : s.data.toList.any sepB with
      | false =>
        have hk := keep_same _ ha
        rw [ha] at e0
        exact st_clean s _ w h hk e0 hf e0 ht hsz
      | true =>
        have hk := keep_less _ ha
        rw [ha] at e0
        cases hF : (keepL s.data.toList).isEmpty with
        | false => rw [hF] at hd; exact st_some s _ w h rfl hd hF e0 ht (by omega)
        | true => rw [hF] at hd; exact st_none s _ w h rfl hd hF e0 ht (by omega)
  · exact st_long s w0 w h

end Go.Proofs.Qxb6614456a
