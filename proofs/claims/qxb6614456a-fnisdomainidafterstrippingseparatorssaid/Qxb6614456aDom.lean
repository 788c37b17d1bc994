/-
  THE WALKS of isDomainID, hasSeparator and the lengths' tests; and the plain law on separators.
-/
import Derived.Test.Qxb6614456aRows
import Derived.Test.Qxb6614456aShelf
import Derived.WalkKit
import Derived.WalkSpells
import Derived.WalkLawsBesides
import Derived.Lib.Bytealg
set_option linter.unusedSimpArgs false
set_option linter.unusedVariables false
namespace Go.Proofs.Qxb6614456a
open Go.RowKit

def sepB (c : UInt8) : Bool := c == 58 || c == 47 || c == 42
def isDom (l : List UInt8) : Bool := !l.isEmpty && !l.any sepB

theorem ix_neg (l : List UInt8) (c : UInt8) : (Lib.indexByte l c < 0) ↔ l.contains c = false := by
  induction l with
  | nil => simp [Lib.indexByte]
  | cons b l ih =>
    have hg := Lib.indexByte_ge l c
    simp only [Lib.indexByte]
    by_cases h : b = c
    · subst h; simp
    · have h' : (b == c) = false := by simpa using h
      have h'' : (c == b) = false := by simpa using fun e => h e.symm
      rw [h', List.contains_cons, h'']
      simp only [Bool.false_or]
      rw [← ih]
      by_cases h1 : Lib.indexByte l c = -1
      · simp [h1]
      · have h2 : (Lib.indexByte l c == -1) = false := by simpa using h1
        simp only [h2]
        simp only [Bool.false_eq_true, if_false]
        constructor <;> intro h3 <;> omega

theorem any_sep (l : List UInt8) : l.any sepB = (l.contains 58 || l.contains 47 || l.contains 42) := by
  induction l with
  | nil => rfl
  | cons b l ih =>
    simp only [List.any_cons, List.contains_cons, ih, sepB]
    have e : ∀ k : UInt8, (k == b) = (b == k) := fun k => by rw [Bool.eq_iff_iff]; simp only [beq_iff_eq]; exact eq_comm
    generalize l.contains 58 = x
    generalize l.contains 47 = y
    generalize l.contains 42 = z
    rw [e 58, e 47, e 42]
    generalize (b == 58) = x'
    generalize (b == 47) = y'
    generalize (b == 42) = z'
    revert x y z x' y' z'
    decide

theorem ix_in (s : ByteArray) (n : Int) (w : World) (h : s.data.toList.contains n.toNat.toUInt8 = true) :
    Calls Try.prog 27 #[.string s, .int .u8 n] w fun e w' => ∃ z : Int, e = .returned (.int .i64 z) ∧ decide (z < 0) = false ∧ w = w' := by
  refine (Try.strings_IndexByte s n w).mono ?_
  rintro e w' ⟨rfl, rfl⟩
  refine ⟨_, rfl, ?_, rfl⟩
  rcases Int.lt_or_le (Lib.indexByte s.data.toList n.toNat.toUInt8) 0 with h' | h'
  · rw [(ix_neg _ _).1 h'] at h; cases h
  · exact decide_eq_false (by omega)

theorem ix_out (s : ByteArray) (n : Int) (w : World) (h : s.data.toList.contains n.toNat.toUInt8 = false) :
    Calls Try.prog 27 #[.string s, .int .u8 n] w fun e w' => ∃ z : Int, e = .returned (.int .i64 z) ∧ decide (z < 0) = true ∧ w = w' := by
  refine (Try.strings_IndexByte s n w).mono ?_
  rintro e w' ⟨rfl, rfl⟩
  exact ⟨_, rfl, decide_eq_true ((ix_neg _ _).2 h), rfl⟩

theorem empty_of_size (s : ByteArray) (h : s.size = 0) : s = ⟨#[]⟩ := by
  obtain ⟨d⟩ := s
  simp only [ByteArray.mk.injEq]
  exact Array.eq_empty_of_size_eq_zero h

set_option maxHeartbeats 400000 in
theorem dom_empty (w : World) : Calls Try.prog 23 #[.string ⟨#[]⟩] w fun e w' => e = .returned (.bool false) ∧ w = w' := by
  go_enter Try.func23, Try.ntmps23
  go_wp2
  go_ret
  exact ⟨rfl, rfl⟩

theorem toList_full (s : ByteArray) (h : s.size ≠ 0) : s.toList.isEmpty = false := by
  rw [ByteArray.toList_eq]
  cases hl : s.data.toList with
  | nil => exact absurd (by have := congrArg List.length hl; simpa using this) h
  | cons a l => rfl

set_option maxHeartbeats 400000 in
theorem dom_full (s : ByteArray) (w : World) (hs : s.size ≠ 0) :
    Calls Try.prog 23 #[.string s] w fun e w' => e = .returned (.bool (isDom s.data.toList)) ∧ w = w' := by
  have hte := toList_full s hs
  have hte' : s.data.toList.isEmpty = false := by rw [← ByteArray.toList_eq]; exact hte
  have HR : Hid (isDom s.data.toList = !(s.data.toList.contains 58 || s.data.toList.contains 47 || s.data.toList.contains 42)) := by
    show isDom s.data.toList = _
    unfold isDom; rw [any_sep, hte']; simp
  clear hte' hs
  cases h1 : s.data.toList.contains 58
  · cases h2 : s.data.toList.contains 47
    · cases h3 : s.data.toList.contains 42
      · go_enter Try.func23, Try.ntmps23
        go_wp2_with fail
        refine (ix_out s 58 w h1).mono ?_
        rintro e w1 ⟨z1, rfl, hz1, rfl⟩
        go_wp2_with fail
        refine (ix_out s 47 w h2).mono ?_
        rintro e w1 ⟨z2, rfl, hz2, rfl⟩
        go_wp2_with fail
        refine (ix_out s 42 w h3).mono ?_
        rintro e w1 ⟨z3, rfl, hz3, rfl⟩
        go_wp2
        go_ret
        exact ⟨by rw [HR.out, h1, h2, h3]; rfl, rfl⟩
      · go_enter Try.func23, Try.ntmps23
        go_wp2_with fail
        refine (ix_out s 58 w h1).mono ?_
        rintro e w1 ⟨z1, rfl, hz1, rfl⟩
        go_wp2_with fail
        refine (ix_out s 47 w h2).mono ?_
        rintro e w1 ⟨z2, rfl, hz2, rfl⟩
        go_wp2_with fail
        refine (ix_in s 42 w h3).mono ?_
        rintro e w1 ⟨z3, rfl, hz3, rfl⟩
        go_wp2
        go_ret
        exact ⟨by rw [HR.out, h1, h2, h3]; rfl, rfl⟩
    · go_enter Try.func23, Try.ntmps23
      go_wp2_with fail
      refine (ix_out s 58 w h1).mono ?_
      rintro e w1 ⟨z1, rfl, hz1, rfl⟩
      go_wp2_with fail
      refine (ix_in s 47 w h2).mono ?_
      rintro e w1 ⟨z2, rfl, hz2, rfl⟩
      go_wp2
      go_ret
      exact ⟨by rw [HR.out, h1, h2]; rfl, rfl⟩
  · go_enter Try.func23, Try.ntmps23
    go_wp2_with fail
    refine (ix_in s 58 w h1).mono ?_
    rintro e w1 ⟨z1, rfl, hz1, rfl⟩
    go_wp2
    go_ret
    exact ⟨by rw [HR.out, h1]; rfl, rfl⟩

theorem dom_any (s : ByteArray) (w : World) : Calls Try.prog 23 #[.string s] w fun e w' => e = .returned (.bool (isDom s.data.toList)) ∧ w = w' := by
  by_cases hs : s.size = 0
  · have := empty_of_size s hs
    subst this
    exact dom_empty w
  · exact dom_full s w hs

set_option maxHeartbeats 400000 in
/-- ZZisDomainID. -/
theorem zdom (s : ByteArray) (w : World) (b : Bool) (h : isDom s.data.toList = b) : Calls Try.prog 8 #[.string s] w fun e w' => e = .returned (.bool b) ∧ w = w' := by
  subst h
  go_enter Try.func8, Try.ntmps8
  go_wp2_with (go_at_call 23; refine (dom_any s _).mono ?_; rintro e w1 ⟨rfl, rfl⟩)
  go_ret
  exact ⟨rfl, rfl⟩

theorem take_snoc (s : ByteArray) (k : Nat) (h : k < s.size) : s.data.toList.take (k + 1) = s.data.toList.take k ++ [s[k]] := by
  rw [List.take_succ_eq_append_getElem (by simpa using h)]; rfl

theorem byte_is (c k : UInt8) : ((c.toNat : Int) == (k.toNat : Int)) = (c == k) := by
  rw [Bool.eq_iff_iff]
  simp only [beq_iff_eq]
  constructor
  · intro h; exact UInt8.toNat_inj.1 (by omega)
  · intro h; rw [h]

theorem at_data (s : ByteArray) (k : Nat) (h : k < s.size) : s.data.toList[k]? = some s[k] := by
  rw [List.getElem?_eq_getElem (by simpa using h)]; rfl

theorem any_at (s : ByteArray) (k : Nat) (h : k < s.size) (b : Bool) (hb : s.data.toList.any sepB = b) (hs : sepB s[k] = true) : b = true := by
  rw [← hb, List.any_eq_true]
  exact ⟨s[k], List.mem_iff_getElem?.2 ⟨k, at_data s k h⟩, hs⟩

theorem sep_yes {c : UInt8} (h : ((c.toNat : Int) == 58) = true ∨ ((c.toNat : Int) == 47) = true ∨ ((c.toNat : Int) == 42) = true) : sepB c = true := by
  have e1 : ((c.toNat : Int) == 58) = (c == 58) := byte_is c 58
  have e2 : ((c.toNat : Int) == 47) = (c == 47) := byte_is c 47
  have e3 : ((c.toNat : Int) == 42) = (c == 42) := byte_is c 42
  rw [e1, e2, e3] at h
  unfold sepB
  rcases h with h | h | h <;> rw [h] <;> simp

theorem sep_no {c : UInt8} (h1 : ((c.toNat : Int) == 58) = false) (h2 : ((c.toNat : Int) == 47) = false) (h3 : ((c.toNat : Int) == 42) = false) : sepB c = false := by
  have e1 : ((c.toNat : Int) == 58) = (c == 58) := byte_is c 58
  have e2 : ((c.toNat : Int) == 47) = (c == 47) := byte_is c 47
  have e3 : ((c.toNat : Int) == 42) = (c == 42) := byte_is c 42
  rw [e1] at h1; rw [e2] at h2; rw [e3] at h3
  unfold sepB
  rw [h1, h2, h3]; rfl

set_option maxHeartbeats 400000 in
/-- hasSeparator. -/
theorem has_any (s : ByteArray) (w : World) (hs : s.size ≤ 1048576) (b : Bool) (h : s.data.toList.any sepB = b) :
    Calls Try.prog 9 #[.string s] w fun e w' => e = .returned (.bool b) ∧ w = w' := by
  have HB : Hid (s.data.toList.any sepB = b) := h
  clear h
  go_enter Try.func9, Try.ntmps9
  go_wp2
  go_loop [3] (fun i => ∃ k : Nat, k ≤ s.size ∧ i = .int .i64 k ∧ Hid ((s.data.toList.take k).any sepB = false)) (fun i => s.size - (intOf i).toNat)
  case atStart => exact ⟨0, Nat.zero_le _, rfl, rfl⟩
  case round =>
    obtain ⟨k, hk, rfl, HK⟩ := hrel
    by_cases hlt : k < s.size
    · by_cases t1 : ((s[k].toNat : Int) == 58) = true
      · have HT : Hid (b = true) := any_at s k hlt b HB.out (sep_yes (.inl t1))
        go_wp2
        go_ret
        exact ⟨by rw [HT.out]; rfl, rfl⟩
      · have t1' : ((s[k].toNat : Int) == 58) = false := by simpa using t1
        clear t1
        by_cases t2 : ((s[k].toNat : Int) == 47) = true
        · have HT : Hid (b = true) := any_at s k hlt b HB.out (sep_yes (.inr (.inl t2)))
          go_wp2
          go_ret
          exact ⟨by rw [HT.out]; rfl, rfl⟩
        · have t2' : ((s[k].toNat : Int) == 47) = false := by simpa using t2
          clear t2
          by_cases t3 : ((s[k].toNat : Int) == 42) = true
          · have HT : Hid (b = true) := any_at s k hlt b HB.out (sep_yes (.inr (.inr t3)))
            go_wp2
            go_ret
            exact ⟨by rw [HT.out]; rfl, rfl⟩
          · have t3' : ((s[k].toNat : Int) == 42) = false := by simpa using t3
            clear t3
            have HN : Hid (sepB s[k] = false) := sep_no t1' t2' t3'
            go_wp2
            go_round
            case rel => exact ⟨k + 1, by omega, by go_num, (by rw [take_snoc s k hlt, List.any_append, HK.out]; simp [HN.out] : (s.data.toList.take (k + 1)).any sepB = false)⟩
            case measure => simp [intOf]; omega
    · have HT : Hid (b = false) := by
        have e : s.data.toList.take k = s.data.toList := List.take_of_length_le (by simp; omega)
        have h2 := HK.out
        rw [e, HB.out] at h2
        exact h2
      go_wp2
      go_ret
      exact ⟨by rw [HT.out]; rfl, rfl⟩

set_option maxHeartbeats 400000 in
theorem bytes_fit (a b : ByteArray) (w : World) (h : a.size + b.size ≤ 1048576) :
    Calls Try.prog 7 #[.string a, .string b] w fun e w' => e = .returned (.bool true) ∧ w = w' := by
  go_enter Try.func7, Try.ntmps7
  go_wp2
  go_ret
  exact ⟨rfl, rfl⟩

set_option maxHeartbeats 400000 in
theorem bytes_not (a b : ByteArray) (w : World) (ha : a.size ≤ maxLen) (hb : b.size ≤ maxLen) (h : ¬ a.size + b.size ≤ 1048576) :
    Calls Try.prog 7 #[.string a, .string b] w fun e w' => e = .returned (.bool false) ∧ w = w' := by
  unfold maxLen at ha hb
  by_cases h1 : a.size ≤ 1048576
  · by_cases h2 : b.size ≤ 1048576
    · go_enter Try.func7, Try.ntmps7
      go_wp2
      go_ret
      exact ⟨rfl, rfl⟩
    · go_enter Try.func7, Try.ntmps7
      go_wp2
      go_ret
      exact ⟨rfl, rfl⟩
  · go_enter Try.func7, Try.ntmps7
    go_wp2
    go_ret
    exact ⟨rfl, rfl⟩

end Go.Proofs.Qxb6614456a
