/-
  THE WALK OF unescapeFieldValue.
-/
import Derived.Test.Qxb6600459aRows
import Derived.Test.Qxb6600459aPlain
import Derived.Test.Qxb6600459aShelf
import Derived.WalkKit
import Derived.WalkSpells
import Derived.WalkLawsBesides
import Derived.Lib.Bytealg
import Derived.Lib.Builder
set_option linter.unusedSimpArgs false
set_option linter.unusedVariables false
namespace Go.Proofs.Qxb6600459a
open Go.RowKit

theorem drop_cons (s : ByteArray) (k : Nat) (h : k < s.size) : s.data.toList.drop k = s[k] :: s.data.toList.drop (k + 1) := by
  rw [List.drop_eq_getElem_cons (by simpa using h)]; rfl

theorem at_data (s : ByteArray) (k : Nat) (h : k < s.size) : s.data.toList[k]? = some s[k] := by
  rw [List.getElem?_eq_getElem (by simpa using h)]; rfl

theorem byte_is (c k : UInt8) : ((c.toNat : Int) == (k.toNat : Int)) = (c == k) := by
  rw [Bool.eq_iff_iff]
  simp only [beq_iff_eq]
  constructor
  · intro h; exact UInt8.toNat_inj.1 (by omega)
  · intro h; rw [h]

theorem byte_eq' {c : UInt8} (h : ((c.toNat : Int) == 92) = true) : c = 92 := by
  have e : ((c.toNat : Int) == 92) = (c == 92) := byte_is c 92
  rw [e] at h; simpa using h
theorem byte_ne' {c : UInt8} (h : ((c.toNat : Int) == 92) = false) : c ≠ 92 := by
  have e : ((c.toNat : Int) == 92) = (c == 92) := byte_is c 92
  rw [e] at h; simpa using h
theorem byte_ne {c : UInt8} (h : ((c.toNat : Int) != 92) = true) : c ≠ 92 := byte_ne' (by simpa using h)
theorem byte_eq {c : UInt8} (h : ((c.toNat : Int) != 92) = false) : c = 92 := byte_eq' (by simpa using h)

theorem ix_es (c : UInt8) : (0 ≤ Lib.indexByte [92, 44, 61] c) ↔ esB c = true := by
  simp only [Lib.indexByte, esB]
  by_cases h1 : c = 92
  · subst h1; decide
  by_cases h2 : c = 44
  · subst h2; decide
  by_cases h3 : c = 61
  · subst h3; decide
  have e1 : ((92 : UInt8) == c) = false := by simpa using fun h => h1 h.symm
  have e2 : ((44 : UInt8) == c) = false := by simpa using fun h => h2 h.symm
  have e3 : ((61 : UInt8) == c) = false := by simpa using fun h => h3 h.symm
  simp [e1, e2, e3, h1, h2, h3]

theorem back_byte (c : UInt8) : ((c.toNat : Int)).toNat.toUInt8 = c := by simp

theorem ix_yes (c : UInt8) (w : World) (h : esB c = true) :
    Calls Try.prog 12 #[.string ⟨#[92, 44, 61]⟩, .int .u8 c.toNat] w fun e w' => ∃ z : Int, e = .returned (.int .i64 z) ∧ decide (z < 0) = false ∧ w = w' := by
  refine (Try.strings_IndexByte ⟨#[92, 44, 61]⟩ c.toNat w).mono ?_
  rintro e w' ⟨rfl, rfl⟩
  exact ⟨_, rfl, by rw [back_byte]; exact decide_eq_false (Int.not_lt.2 ((ix_es c).2 h)), rfl⟩

theorem ix_no (c : UInt8) (w : World) (h : esB c = false) :
    Calls Try.prog 12 #[.string ⟨#[92, 44, 61]⟩, .int .u8 c.toNat] w fun e w' => ∃ z : Int, e = .returned (.int .i64 z) ∧ decide (z < 0) = true ∧ w = w' := by
  refine (Try.strings_IndexByte ⟨#[92, 44, 61]⟩ c.toNat w).mono ?_
  rintro e w' ⟨rfl, rfl⟩
  refine ⟨_, rfl, ?_, rfl⟩
  rw [back_byte]
  have := ix_es c
  rw [h] at this
  rcases Int.lt_or_le (Lib.indexByte [92, 44, 61] c) 0 with h' | h'
  · exact decide_eq_true h'
  · exact absurd (this.1 h') (by simp)

/-- What unescapeFieldValue hands back. -/
def UnRes (x : Option (List UInt8)) (e : Ending) : Prop :=
  (∃ l, x = some l ∧ e = .returned (.tuple #[.string ⟨l.toArray⟩, .bool true])) ∨ (x = none ∧ e = .returned (.tuple #[.string ⟨#[]⟩, .bool false]))

theorem map_nil (x : Option (List UInt8)) : x = x.map ([] ++ ·) := by cases x <;> simp
theorem map_snoc (x : Option (List UInt8)) (acc : List UInt8) (c : UInt8) : (x.map (c :: ·)).map (acc ++ ·) = x.map ((acc ++ [c]) ++ ·) := by cases x <;> simp

/-- What the loop holds, k bytes in. -/
def UnAt (s : ByteArray) (w : World) (k : Nat) (wr : World) : Prop :=
  ∃ acc, Lib.IsBuilder 28 5 w.heap.size w.heap.size (Lib.byteCells acc) wr ∧ Below w.heap.size w wr ∧ unf s.data.toList = (unf (s.data.toList.drop k)).map (acc ++ ·) ∧ acc.length ≤ k

theorem un_step {s : ByteArray} {w wr : World} {k : Nat} (h : UnAt s w k wr) (hk : k ≤ 1048576) (x : UInt8) (k' : Nat) (hk' : k < k') (hx : unf (s.data.toList.drop k) = (unf (s.data.toList.drop k')).map (x :: ·)) :
    Calls Try.prog 11 #[.pointer (some ⟨w.heap.size, 0, none⟩), .int .u8 x.toNat] wr fun e w' => e = .returned .nilIface ∧ UnAt s w k' w' := by
  obtain ⟨acc, hB, hb, hu, hl⟩ := h
  refine (Try.Builder_WriteByte w.heap.size w.heap.size _ x.toNat wr hB (by rw [Lib.byteCells_length]; omega) hb.size).mono ?_
  rintro e w' ⟨rfl, h1, h2⟩
  have e1 : Lib.byteCells acc ++ [Value.int .u8 (x.toNat : Int)] = Lib.byteCells (acc ++ [x]) := by simp [Lib.byteCells]
  rw [e1] at h1
  exact ⟨rfl, acc ++ [x], .inr h1, hb.trans h2, by rw [hu, hx, map_snoc], by simp; omega⟩

set_option maxHeartbeats 1000000 in
theorem un_any (s : ByteArray) (w : World) (hs : s.size ≤ 1048576) :
    Calls Try.prog 10 #[.string s] w fun e w' => UnRes (unf s.data.toList) e ∧ Below w.heap.size w w' := by
  have H0 : Hid (UnAt s w 0 (w.alloc (.cells #[.pointer none, .slice none 0 0] 28))) :=
    ⟨[], Lib.fresh_isBuilder 28 5 w, (Below.refl _ w).alloc (Nat.le_refl _) _, map_nil _, Nat.le_refl _⟩
  go_enter Try.func10, Try.ntmps10
  go_wp2
  go_loopw [5] (fun i wr => ∃ k : Nat, k ≤ s.size ∧ i = .int .i64 k ∧ Hid (UnAt s w k wr)) (fun i _ => s.size - (intOf i).toNat)
  case atStart => exact ⟨0, Nat.zero_le _, rfl, H0⟩
  case round =>
    obtain ⟨k, hk, rfl, HW⟩ := hrel
    clear H0
    by_cases hlt : k < s.size
    · have hd := drop_cons s k hlt
      by_cases hb9 : ((s[k].toNat : Int) != 92) = true
      · have HX : Hid (unf (s.data.toList.drop k) = (unf (s.data.toList.drop (k + 1))).map (s[k] :: ·)) := by
          show unf (s.data.toList.drop k) = _
          rw [hd, unf_plain _ _ (byte_ne hb9)]
        clear hd
        go_wp2_with (go_at_call 11; refine (un_step HW.out (by omega) s[k] (k + 1) (by omega) HX.out).mono ?_; rintro e w' ⟨rfl, hn⟩)
        go_roundw
        case rel => exact ⟨k + 1, by omega, by go_num, hn⟩
        case measure => simp [intOf]; omega
      · have hb9' : ((s[k].toNat : Int) != 92) = false := by simpa using hb9
        clear hb9
        have e9 := byte_eq hb9'
        by_cases h1 : k + 1 < s.size
        · have hd1 := drop_cons s (k + 1) h1
          have hq : ((k : Int) + 1 == (s.size : Int)) = false := by simp only [beq_eq_false_iff_ne]; omega
          by_cases he : esB s[k + 1] = true
          · have HX : Hid (unf (s.data.toList.drop k) = (unf (s.data.toList.drop (k + 1 + 1))).map (s[k + 1] :: ·)) := by
              show unf (s.data.toList.drop k) = _
              rw [hd, hd1, e9, unf_esc _ _ he]
            have HS : Hid (esB s[k + 1] = true) := he
            clear hd hd1 e9 he
            go_wp2_with (first | (go_at_call 12; refine (ix_yes s[k + 1] _ HS.out).mono ?_; rintro e w' ⟨z, rfl, hz, rfl⟩) | (go_at_call 11; refine (un_step HW.out (by omega) s[k + 1] (k + 1 + 1) (by omega) HX.out).mono ?_; rintro e w' ⟨rfl, hn⟩))
            go_roundw
            case rel => exact ⟨k + 1 + 1, by omega, by go_num, hn⟩
            case measure => simp [intOf]; omega
          · have he' : esB s[k + 1] = false := by simpa using he
            have HS : Hid (esB s[k + 1] = false) := he'
            obtain ⟨acc, _, hbw, hu, _⟩ := HW.out
            have HN : Hid (unf s.data.toList = none) := by
              show unf s.data.toList = none
              rw [hu, hd, hd1, e9, unf_bad _ _ he']; rfl
            clear hd hd1 e9 he he' hu
            go_wp2_with (go_at_call 12; refine (ix_no s[k + 1] _ HS.out).mono ?_; rintro e w' ⟨z, rfl, hz, rfl⟩)
            go_ret2
            exact ⟨.inr ⟨HN.out, rfl⟩, hbw⟩
        · have hq : ((k : Int) + 1 == (s.size : Int)) = true := by simp only [beq_iff_eq]; omega
          obtain ⟨acc, _, hbw, hu, _⟩ := HW.out
          have HN : Hid (unf s.data.toList = none) := by
            show unf s.data.toList = none
            rw [hu, hd, e9, List.drop_of_length_le (by simp; omega)]; rfl
          clear hd e9 hu
          go_wp2
          go_ret2
          exact ⟨.inr ⟨HN.out, rfl⟩, hbw⟩
    · obtain ⟨acc, hB, hbw, hu, _⟩ := HW.out
      have HN : Hid (unf s.data.toList = some acc) := by
        show unf s.data.toList = some acc
        rw [hu, List.drop_of_length_le (by simp; omega)]; simp [unf]
      clear hu
      go_wp2_with (go_at_call 13; refine (Try.Builder_String_any w.heap.size w.heap.size acc _ hB hbw.size).mono ?_; rintro e w' ⟨rfl, hb2⟩)
      go_ret2
      exact ⟨.inl ⟨acc, HN.out, rfl⟩, hbw.trans hb2⟩

end Go.Proofs.Qxb6600459a
