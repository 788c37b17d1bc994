/-
  THE WALKS of isAlpha, isTChar, isKey and isToken: every key is a token.
-/
import Derived.Test.Qxb6003799aKey
import Derived.Test.Qxb6003799aShelf
import Derived.Lib.Bytealg
set_option linter.unusedSimpArgs false
set_option linter.unusedVariables false
namespace Go.Proofs.Qxb6003799a
open Go.RowKit

def alB (c : Int) : Bool := lcB c || ucB c

set_option maxHeartbeats 400000 in
theorem isAl' (c : Int) (w : World) (b : Bool) (h : alB c = b) :
    Calls Try.prog 19 #[.int .u8 c] w fun e w' => e = .returned (.bool b) ∧ w = w' := by
  subst h
  unfold alB ucB
  cases h1 : lcB c <;> by_cases h2 : 65 ≤ c <;> by_cases h3 : c ≤ 90 <;> simp only [h2, h3, decide_true, decide_false, Bool.and_true, Bool.and_false, Bool.false_and, Bool.true_or, Bool.false_or]
  all_goals
    go_enter Try.func19, Try.ntmps19
    go_wp2_with (go_at_call 17; refine (isLC' c _ _ h1).mono ?_; rintro e w' ⟨rfl, rfl⟩)
  all_goals
    go_ret
    simp [*]

theorem ix_ge (n : Int) (w : World) (h : n = 95 ∨ n = 45 ∨ n = 46 ∨ n = 42) :
    Calls Try.prog 22 #[.string ⟨#[33, 35, 36, 37, 38, 39, 42, 43, 45, 46, 94, 95, 96, 124, 126]⟩, .int .u8 n] w fun e w' => ∃ z : Int, e = .returned (.int .i64 z) ∧ 0 ≤ z ∧ w = w' := by
  refine (Try.strings_IndexByte _ n w).mono ?_
  rintro e w' ⟨rfl, rfl⟩
  refine ⟨_, rfl, ?_, rfl⟩
  rcases h with rfl | rfl | rfl | rfl <;> decide

theorem kc_cases (c : Int) (h : kcB c = true) (ha : alB c = false) (hd : dgB c = false) : c = 95 ∨ c = 45 ∨ c = 46 ∨ c = 42 := by
  have hl : lcB c = false := by unfold alB at ha; simp at ha; exact ha.1
  unfold kcB at h
  rw [hl, hd] at h
  simpa [or_assoc] using h

set_option maxHeartbeats 400000 in
/-- isTChar of what may stand in a key. -/
theorem isTC (c : Int) (w : World) (h : kcB c = true) :
    Calls Try.prog 20 #[.int .u8 c] w fun e w' => e = .returned (.bool true) ∧ w = w' := by
  cases h1 : alB c with
  | true =>
    have H1 : Hid (alB c = true) := h1
    clear h h1
    go_enter Try.func20, Try.ntmps20
    go_wp2_with (go_at_call 19; refine (isAl' c _ _ H1.out).mono ?_; rintro e w' ⟨rfl, rfl⟩)
    go_ret
    exact ⟨rfl, rfl⟩
  | false =>
    cases h2 : dgB c with
    | true =>
      have H1 : Hid (alB c = false) := h1
      have H2 : Hid (dgB c = true) := h2
      clear h h1 h2
      go_enter Try.func20, Try.ntmps20
      go_wp2_with (first | (go_at_call 19; refine (isAl' c _ _ H1.out).mono ?_; rintro e w' ⟨rfl, rfl⟩) | (go_at_call 21; refine (isDg' c _ _ H2.out).mono ?_; rintro e w' ⟨rfl, rfl⟩))
      go_ret
      exact ⟨rfl, rfl⟩
    | false =>
      have H1 : Hid (alB c = false) := h1
      have H2 : Hid (dgB c = false) := h2
      have H3 : Hid (c = 95 ∨ c = 45 ∨ c = 46 ∨ c = 42) := kc_cases c h h1 h2
      clear h h1 h2
      go_enter Try.func20, Try.ntmps20
      go_wp2_with (first | (go_at_call 19; refine (isAl' c _ _ H1.out).mono ?_; rintro e w' ⟨rfl, rfl⟩) | (go_at_call 21; refine (isDg' c _ _ H2.out).mono ?_; rintro e w' ⟨rfl, rfl⟩) | (go_at_call 22; refine (ix_ge c _ H3.out).mono ?_; rintro e w' ⟨z, rfl, hz, rfl⟩))
      go_ret
      exact ⟨rfl, rfl⟩

/-- What isKey asks. -/
def KeyOk (s : ByteArray) : Prop :=
  ∃ h : 0 < s.size, (lcB (s[0].toNat : Int) = true ∨ ((s[0].toNat : Int) == 42) = true) ∧ ∀ j (hj : j < s.size), 1 ≤ j → kcB (s[j].toNat : Int) = true

theorem empty_of_size (s : ByteArray) (h : s.size = 0) : s = ⟨#[]⟩ := by
  obtain ⟨d⟩ := s
  simp only [ByteArray.mk.injEq]
  exact Array.eq_empty_of_size_eq_zero h

theorem toList_full (s : ByteArray) (h : 0 < s.size) : s.toList.isEmpty = false := by
  rw [ByteArray.toList_eq]
  cases hl : s.data.toList with
  | nil => exact absurd (by have := congrArg List.length hl; simpa using this : s.size = 0) (by omega)
  | cons a l => rfl

theorem isKC' (c : Int) (w : World) (b : Bool) (h : kcB c = b) :
    Calls Try.prog 18 #[.int .u8 c] w fun e w' => e = .returned (.bool b) ∧ w = w' := by
  subst h
  refine (isKC c w).mono ?_
  rintro e w' ⟨rfl, rfl⟩
  exact ⟨rfl, rfl⟩

/-- What isKey's answer says. -/
def KeyRes (s : ByteArray) (w : World) (e : Ending) (w' : World) : Prop := ∃ r, e = .returned (.bool r) ∧ (r = true → KeyOk s) ∧ w = w'

set_option maxHeartbeats 1000000 in
theorem key_any (s : ByteArray) (w : World) (hs : s.size ≤ 1048576) :
    Calls Try.prog 15 #[.string s] w fun e w' => KeyRes s w e w' := by
  by_cases h0 : 0 < s.size
  · have hte := toList_full s h0
    by_cases hl : lcB (s[0].toNat : Int) = true
    · have HH : Hid (lcB (s[0].toNat : Int) = true ∨ ((s[0].toNat : Int) == 42) = true) := .inl hl
      have HL : Hid (lcB (s[0].toNat : Int) = true) := hl
      clear hl
      go_enter Try.func15, Try.ntmps15
      go_wp2_with (go_at_call 17; refine (isLC' _ _ _ HL.out).mono ?_; rintro e w' ⟨rfl, hw⟩; obtain rfl := hw.symm)
      go_loop [3] (fun i => ∃ k : Nat, 1 ≤ k ∧ k ≤ s.size ∧ i = .int .i64 k ∧ Hid (∀ j (hj : j < s.size), 1 ≤ j → j < k → kcB (s[j].toNat : Int) = true)) (fun i => s.size - (intOf i).toNat)
      case atStart => exact ⟨1, Nat.le_refl _, h0, rfl, fun j _ h1 h2 => by omega⟩
      case round =>
        obtain ⟨k, hk1, hk, rfl, HK⟩ := hrel
        by_cases hlt : k < s.size
        · by_cases hc : kcB (s[k].toNat : Int) = true
          · have HC : Hid (kcB (s[k].toNat : Int) = true) := hc
            clear hc
            go_wp2_with (go_at_call 18; refine (isKC' _ _ _ HC.out).mono ?_; rintro e w' ⟨rfl, rfl⟩)
            go_round
            case rel =>
              refine ⟨k + 1, by omega, by omega, by go_num, fun j hj h1 h2 => ?_⟩
              by_cases e : j = k
              · subst e; exact HC.out
              · exact HK.out j hj h1 (by omega)
            case measure => simp [intOf]; omega
          · have HC : Hid (kcB (s[k].toNat : Int) = false) := by simpa [Hid] using hc
            clear hc
            go_wp2_with (go_at_call 18; refine (isKC' _ _ _ HC.out).mono ?_; rintro e w' ⟨rfl, rfl⟩)
            go_ret
            exact ⟨_, rfl, fun h => (by cases h), rfl⟩
        · go_wp2
          go_ret
          exact ⟨_, rfl, fun _ => ⟨h0, HH.out, fun j hj h1 => HK.out j hj h1 (by omega)⟩, rfl⟩
    · have HL : Hid (lcB (s[0].toNat : Int) = false) := by simpa [Hid] using hl
      clear hl
      by_cases h42 : ((s[0].toNat : Int) != 42) = false
      · have HH : Hid (lcB (s[0].toNat : Int) = true ∨ ((s[0].toNat : Int) == 42) = true) := .inr (by simpa using h42)
        go_enter Try.func15, Try.ntmps15
        go_wp2_with (go_at_call 17; refine (isLC' _ _ _ HL.out).mono ?_; rintro e w' ⟨rfl, hw⟩; obtain rfl := hw.symm)
        go_loop [3] (fun i => ∃ k : Nat, 1 ≤ k ∧ k ≤ s.size ∧ i = .int .i64 k ∧ Hid (∀ j (hj : j < s.size), 1 ≤ j → j < k → kcB (s[j].toNat : Int) = true)) (fun i => s.size - (intOf i).toNat)
        case atStart => exact ⟨1, Nat.le_refl _, h0, rfl, fun j _ h1 h2 => by omega⟩
        case round =>
          obtain ⟨k, hk1, hk, rfl, HK⟩ := hrel
          by_cases hlt : k < s.size
          · by_cases hc : kcB (s[k].toNat : Int) = true
            · have HC : Hid (kcB (s[k].toNat : Int) = true) := hc
              clear hc
              go_wp2_with (go_at_call 18; refine (isKC' _ _ _ HC.out).mono ?_; rintro e w' ⟨rfl, rfl⟩)
              go_round
              case rel =>
                refine ⟨k + 1, by omega, by omega, by go_num, fun j hj h1 h2 => ?_⟩
                by_cases e : j = k
                · subst e; exact HC.out
                · exact HK.out j hj h1 (by omega)
              case measure => simp [intOf]; omega
            · have HC : Hid (kcB (s[k].toNat : Int) = false) := by simpa [Hid] using hc
              clear hc
              go_wp2_with (go_at_call 18; refine (isKC' _ _ _ HC.out).mono ?_; rintro e w' ⟨rfl, rfl⟩)
              go_ret
              exact ⟨_, rfl, fun h => (by cases h), rfl⟩
          · go_wp2
            go_ret
            exact ⟨_, rfl, fun _ => ⟨h0, HH.out, fun j hj h1 => HK.out j hj h1 (by omega)⟩, rfl⟩
      · have h42' : ((s[0].toNat : Int) != 42) = true := by simpa using h42
        clear h42
        go_enter Try.func15, Try.ntmps15
        go_wp2_with (go_at_call 17; refine (isLC' _ _ _ HL.out).mono ?_; rintro e w' ⟨rfl, hw⟩; obtain rfl := hw.symm)
        go_ret
        exact ⟨_, rfl, fun h => (by cases h), rfl⟩
  · have := empty_of_size s (by omega)
    subst this
    go_enter Try.func15, Try.ntmps15
    go_wp2
    go_ret
    exact ⟨_, rfl, fun h => (by cases h), rfl⟩

theorem al_of_lc (c : Int) (h : lcB c = true) : alB c = true := by unfold alB; rw [h]; rfl

set_option maxHeartbeats 1000000 in
theorem token_yes (s : ByteArray) (w : World) (hs : s.size ≤ 1048576) (hK : KeyOk s) :
    Calls Try.prog 16 #[.string s] w fun e w' => e = .returned (.bool true) ∧ w = w' := by
  obtain ⟨h0, hh, hk⟩ := hK
  have HK : Hid (∀ j (hj : j < s.size), 1 ≤ j → kcB (s[j].toNat : Int) = true) := hk
  clear hk
  have hte := toList_full s h0
  by_cases hl : alB (s[0].toNat : Int) = true
  · have HL : Hid (alB (s[0].toNat : Int) = true) := hl
    clear hl hh
    go_enter Try.func16, Try.ntmps16
    go_wp2_with (go_at_call 19; refine (isAl' _ _ _ HL.out).mono ?_; rintro e w' ⟨rfl, rfl⟩)
    go_loop [3] (fun i => ∃ k : Nat, 1 ≤ k ∧ k ≤ s.size ∧ i = .int .i64 k) (fun i => s.size - (intOf i).toNat)
    case atStart => exact ⟨1, Nat.le_refl _, h0, rfl⟩
    case round =>
      obtain ⟨k, hk1, hk, rfl⟩ := hrel
      by_cases hlt : k < s.size
      · go_wp2_with (go_at_call 20; refine (isTC _ _ (HK.out k hlt hk1)).mono ?_; rintro e w' ⟨rfl, rfl⟩)
        go_round
        case rel => exact ⟨k + 1, by omega, by omega, by go_num⟩
        case measure => simp [intOf]; omega
      · go_wp2
        go_ret
        exact ⟨rfl, rfl⟩
  · have h42 : ((s[0].toNat : Int) != 42) = false := by
      rcases hh with h | h
      · exact absurd (al_of_lc _ h) hl
      · simpa using h
    have HL : Hid (alB (s[0].toNat : Int) = false) := by simpa [Hid] using hl
    clear hl hh
    go_enter Try.func16, Try.ntmps16
    go_wp2_with (go_at_call 19; refine (isAl' _ _ _ HL.out).mono ?_; rintro e w' ⟨rfl, rfl⟩)
    go_loop [3] (fun i => ∃ k : Nat, 1 ≤ k ∧ k ≤ s.size ∧ i = .int .i64 k) (fun i => s.size - (intOf i).toNat)
    case atStart => exact ⟨1, Nat.le_refl _, h0, rfl⟩
    case round =>
      obtain ⟨k, hk1, hk, rfl⟩ := hrel
      by_cases hlt : k < s.size
      · go_wp2_with (go_at_call 20; refine (isTC _ _ (HK.out k hlt hk1)).mono ?_; rintro e w' ⟨rfl, rfl⟩)
        go_round
        case rel => exact ⟨k + 1, by omega, by omega, by go_num⟩
        case measure => simp [intOf]; omega
      · go_wp2
        go_ret
        exact ⟨rfl, rfl⟩

end Go.Proofs.Qxb6003799a
