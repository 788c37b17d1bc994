import Derived.Test.Qxb6613957aWalkE
set_option linter.unusedSimpArgs false
set_option linter.unusedVariables false
namespace Go.Proofs.Qxb6613957a
open Go.RowKit

theorem ix_sp (c : UInt8) : (0 ≤ Lib.indexByte [36, 96, 34, 92] c) ↔ isSp c = true := by
  simp only [Lib.indexByte, isSp]
  by_cases h1 : c = 36
  · subst h1; decide
  by_cases h2 : c = 96
  · subst h2; decide
  by_cases h3 : c = 34
  · subst h3; decide
  by_cases h4 : c = 92
  · subst h4; decide
  have e1 : ((36 : UInt8) == c) = false := by simpa using fun h => h1 h.symm
  have e2 : ((96 : UInt8) == c) = false := by simpa using fun h => h2 h.symm
  have e3 : ((34 : UInt8) == c) = false := by simpa using fun h => h3 h.symm
  have e4 : ((92 : UInt8) == c) = false := by simpa using fun h => h4 h.symm
  simp [e1, e2, e3, e4, h1, h2, h3, h4]

theorem back_byte (c : UInt8) : ((c.toNat : Int)).toNat.toUInt8 = c := by simp

theorem ix_yes (c : UInt8) (w : World) (h : isSp c = true) :
    Calls Try.prog 35 #[.string ⟨#[36, 96, 34, 92]⟩, .int .u8 c.toNat] w fun e w' => ∃ z : Int, e = .returned (.int .i64 z) ∧ 0 ≤ z ∧ w = w' := by
  refine (Try.strings_IndexByte ⟨#[36, 96, 34, 92]⟩ c.toNat w).mono ?_
  rintro e w' ⟨rfl, rfl⟩
  exact ⟨_, rfl, by rw [back_byte]; exact (ix_sp c).2 h, rfl⟩

theorem ix_no (c : UInt8) (w : World) (h : isSp c = false) :
    Calls Try.prog 35 #[.string ⟨#[36, 96, 34, 92]⟩, .int .u8 c.toNat] w fun e w' => ∃ z : Int, e = .returned (.int .i64 z) ∧ z < 0 ∧ w = w' := by
  refine (Try.strings_IndexByte ⟨#[36, 96, 34, 92]⟩ c.toNat w).mono ?_
  rintro e w' ⟨rfl, rfl⟩
  refine ⟨_, rfl, ?_, rfl⟩
  rw [back_byte]
  have := (ix_sp c)
  rw [h] at this
  rcases Int.lt_or_le (Lib.indexByte [36, 96, 34, 92] c) 0 with h' | h'
  · exact h'
  · exact absurd (this.1 h') (by simp)

/-- What the loop of writeUnescaped holds, k bytes in. -/
def WU (B t c : Nat) (sp : Value) (bs : List Value) (s : ByteArray) (q : Bool) (w : World) (k : Nat) (wr : World) : Prop :=
  ∃ (v : Value) (op : Bool) (st : Int) (acc : List UInt8), TB B t c v sp op st (bs ++ Lib.byteCells acc) wr ∧ Below B w wr ∧ stAt op st (bs ++ Lib.byteCells acc).length = bs.length ∧
    acc ++ unesc q (s.data.toList.drop k) = unesc q s.data.toList ∧ acc.length ≤ k ∧ (k = 0 → op = false) ∧ (0 < k → op = true)

/-- One byte written. -/
theorem wu_step {B t c : Nat} {sp : Value} {bs : List Value} {s : ByteArray} {q : Bool} {w wr : World} {k : Nat} (h : WU B t c sp bs s q w k wr) (hb : bs.length ≤ 1048576) (hk : k ≤ 1048576) (x : UInt8) (k' : Nat) (hk' : k < k')
    (hx : unesc q (s.data.toList.drop k) = x :: unesc q (s.data.toList.drop k')) :
    Calls Try.prog 36 #[.pointer (some ⟨t, 0, none⟩), .int .u8 x.toNat] wr fun e w' => e = .returned (.tuple #[]) ∧ WU B t c sp bs s q w k' w' := by
  obtain ⟨v, op, st, acc, hT, hB, hst, hacc, hal, h0, h1⟩ := h
  refine (wb_any B t c v sp op st _ x.toNat wr hT (by simp [Lib.byteCells_length]; omega)).mono ?_
  rintro e w' ⟨rfl, ⟨v', hT'⟩, hb'⟩
  have e1 : bs ++ Lib.byteCells acc ++ [Value.int .u8 (x.toNat : Int)] = bs ++ Lib.byteCells (acc ++ [x]) := by simp [Lib.byteCells]
  rw [hst, e1] at hT'
  exact ⟨rfl, v', true, bs.length, acc ++ [x], hT', hB.trans hb', rfl, by rw [← hacc, hx]; simp, by simp; omega, fun h => by omega, fun _ => rfl⟩

set_option maxHeartbeats 1000000 in
theorem wu_any (B t c : Nat) (v sp : Value) (st : Int) (bs : List Value) (s : ByteArray) (q : Bool) (w : World) (h : TB B t c v sp false st bs w) (hb : bs.length ≤ 524288) (hs : s.size ≤ 524288) :
    Calls Try.prog 30 #[.pointer (some ⟨t, 0, none⟩), .string s, .bool q] w fun e w' => e = .returned (.tuple #[]) ∧ WU B t c sp bs s q w s.size w' := by
  have H0 : Hid (WU B t c sp bs s q w 0 w) := ⟨v, false, st, [], by simpa [Lib.byteCells] using h, Below.refl _ _, by simp [stAt, Lib.byteCells], by simp, by simp, fun _ => rfl, fun h => by omega⟩
  clear h
  go_enter Try.func30, Try.ntmps30
  go_wp2
  go_loopw [6] (fun i wr => ∃ k : Nat, k ≤ s.size ∧ i = .int .i64 k ∧ Hid (WU B t c sp bs s q w k wr)) (fun i _ => s.size - (intOf i).toNat)
  case atStart => exact ⟨0, Nat.zero_le _, rfl, H0⟩
  case round =>
    obtain ⟨k, hk, rfl, HW⟩ := hrel
    clear H0
    by_cases hlt : k < s.size
    · have hd := drop_cons s k hlt
      by_cases hb9 : ((s[k].toNat : Int) == 92) = true
      · have e9 := byte_eq' hb9
        by_cases h1 : k + 1 < s.size
        · have hd1 := drop_cons s (k + 1) h1
          by_cases he : (!q || isSp s[k + 1]) = true
          · have HX : Hid (unesc q (s.data.toList.drop k) = s[k + 1] :: unesc q (s.data.toList.drop (k + 1 + 1))) := by
              show unesc q (s.data.toList.drop k) = s[k + 1] :: unesc q (s.data.toList.drop (k + 1 + 1))
              rw [hd, hd1, e9, unesc_esc _ _ _ he]
            clear hd hd1 e9
            cases q with
            | false =>
              go_wp2_with (go_at_call 36; refine (wu_step HW.out (by omega) (by omega) s[k + 1] (k + 1 + 1) (by omega) HX.out).mono ?_; rintro e w' ⟨rfl, hn⟩)
              go_roundw
              case rel => exact ⟨k + 1 + 1, by omega, by go_num, hn⟩
              case measure => simp [intOf]; omega
            | true =>
              have hsp : isSp s[k + 1] = true := by simpa using he
              go_wp2_with (first | (go_at_call 35; refine (ix_yes s[k + 1] _ hsp).mono ?_; rintro e w' ⟨z, rfl, hz, rfl⟩) | (go_at_call 36; refine (wu_step HW.out (by omega) (by omega) s[k + 1] (k + 1 + 1) (by omega) HX.out).mono ?_; rintro e w' ⟨rfl, hn⟩))
              go_roundw
              case rel => exact ⟨k + 1 + 1, by omega, by go_num, hn⟩
              case measure => simp [intOf]; omega
          · have he' : (!q || isSp s[k + 1]) = false := by simpa using he
            clear he
            have hq : q = true := by cases q <;> simp_all
            subst hq
            have hsp : isSp s[k + 1] = false := by simpa using he'
            have HX : Hid (unesc true (s.data.toList.drop k) = s[k] :: unesc true (s.data.toList.drop (k + 1))) := by
              show unesc true (s.data.toList.drop k) = s[k] :: unesc true (s.data.toList.drop (k + 1))
              rw [hd, hd1, e9, unesc_stays _ _ _ he']
            clear hd hd1 e9 he'
            go_wp2_with (first | (go_at_call 35; refine (ix_no s[k + 1] _ hsp).mono ?_; rintro e w' ⟨z, rfl, hz, rfl⟩) | (go_at_call 36; refine (wu_step HW.out (by omega) (by omega) s[k] (k + 1) (by omega) HX.out).mono ?_; rintro e w' ⟨rfl, hn⟩))
            go_roundw
            case rel => exact ⟨k + 1, by omega, by go_num, hn⟩
            case measure => simp [intOf]; omega
        · have HX : Hid (unesc q (s.data.toList.drop k) = s[k] :: unesc q (s.data.toList.drop (k + 1))) := by
            show unesc q (s.data.toList.drop k) = s[k] :: unesc q (s.data.toList.drop (k + 1))
            rw [hd, List.drop_of_length_le (by simp; omega)]
            rfl
          clear hd e9
          go_wp2_with (go_at_call 36; refine (wu_step HW.out (by omega) (by omega) s[k] (k + 1) (by omega) HX.out).mono ?_; rintro e w' ⟨rfl, hn⟩)
          go_roundw
          case rel => exact ⟨k + 1, by omega, by go_num, hn⟩
          case measure => simp [intOf]; omega
      · have hb9' : ((s[k].toNat : Int) == 92) = false := by simpa using hb9
        clear hb9
        have HX : Hid (unesc q (s.data.toList.drop k) = s[k] :: unesc q (s.data.toList.drop (k + 1))) := by
          show unesc q (s.data.toList.drop k) = s[k] :: unesc q (s.data.toList.drop (k + 1))
          rw [hd, unesc_plain _ _ _ (byte_ne' hb9')]
        clear hd
        go_wp2_with (go_at_call 36; refine (wu_step HW.out (by omega) (by omega) s[k] (k + 1) (by omega) HX.out).mono ?_; rintro e w' ⟨rfl, hn⟩)
        go_roundw
        case rel => exact ⟨k + 1, by omega, by go_num, hn⟩
        case measure => simp [intOf]; omega
    · have : k = s.size := by omega
      subst this
      go_wp2
      go_end0
      exact ⟨rfl, HW.out⟩

set_option maxHeartbeats 400000 in
/-- ZZwriteUnescaped. -/
theorem zwu_any (B t c : Nat) (v sp : Value) (st : Int) (bs : List Value) (s : ByteArray) (q : Bool) (w : World) (h : TB B t c v sp false st bs w) (hb : bs.length ≤ 524288) (hs : s.size ≤ 524288) :
    Calls Try.prog 19 #[.pointer (some ⟨t, 0, none⟩), .string s, .bool q] w fun e w' => e = .returned (.tuple #[]) ∧ WU B t c sp bs s q w s.size w' := by
  go_enter Try.func19, Try.ntmps19
  go_wp2_with (go_at_call 30; refine (wu_any B t c v sp st bs s q _ h hb hs).mono ?_; rintro e w' ⟨rfl, hn⟩)
  go_end0
  exact ⟨rfl, hn⟩

end Go.Proofs.Qxb6613957a
