/-
  THE WALK OF FnUnescapeFieldValueUndoesEscaping.
-/
import Derived.Test.Qxb6600459aRuns
set_option linter.unusedSimpArgs false
set_option linter.unusedVariables false
namespace Go.Proofs.Qxb6600459a
open Go.RowKit

set_option maxHeartbeats 400000 in
theorem bytes4_fit (a : ByteArray) (w : World) (h : a.size ≤ 1048576) :
    Calls Try.prog 8 #[.string a] w fun e w' => e = .returned (.bool true) ∧ w = w' := by
  go_enter Try.func8, Try.ntmps8
  go_wp2
  go_ret
  exact ⟨rfl, rfl⟩

set_option maxHeartbeats 400000 in
theorem bytes4_not (a : ByteArray) (w : World) (ha : a.size ≤ maxLen) (h : ¬ a.size ≤ 1048576) :
    Calls Try.prog 8 #[.string a] w fun e w' => e = .returned (.bool false) ∧ w = w' := by
  unfold maxLen at ha
  go_enter Try.func8, Try.ntmps8
  go_wp2
  go_ret
  exact ⟨rfl, rfl⟩

theorem take_snoc (s : ByteArray) (k : Nat) (h : k < s.size) : s.data.toList.take (k + 1) = s.data.toList.take k ++ [s[k]] := by
  rw [List.take_succ_eq_append_getElem (by simpa using h)]; rfl

theorem es_yes {c : UInt8} (h : ((c.toNat : Int) == 92) = true ∨ ((c.toNat : Int) == 44) = true ∨ ((c.toNat : Int) == 61) = true) : esB c = true := by
  have e1 : ((c.toNat : Int) == 92) = (c == 92) := byte_is c 92
  have e2 : ((c.toNat : Int) == 44) = (c == 44) := byte_is c 44
  have e3 : ((c.toNat : Int) == 61) = (c == 61) := byte_is c 61
  rw [e1, e2, e3] at h
  unfold esB
  rcases h with h | h | h <;> rw [h] <;> simp

theorem es_no {c : UInt8} (h1 : ((c.toNat : Int) == 92) = false) (h2 : ((c.toNat : Int) == 44) = false) (h3 : ((c.toNat : Int) == 61) = false) : esB c = false := by
  have e1 : ((c.toNat : Int) == 92) = (c == 92) := byte_is c 92
  have e2 : ((c.toNat : Int) == 44) = (c == 44) := byte_is c 44
  have e3 : ((c.toNat : Int) == 61) = (c == 61) := byte_is c 61
  rw [e1] at h1; rw [e2] at h2; rw [e3] at h3
  unfold esB
  rw [h1, h2, h3]; rfl

set_option maxRecDepth 100000 in
set_option maxHeartbeats 2000000 in
theorem undo_fits (s : ByteArray) (w : World) (hs : s.size ≤ 524288) :
    Calls Try.prog 4 #[.string s] w fun e w' => e = .returned (.bool true) ∧ Below w.heap.size w w' := by
  obtain ⟨i0, hi, hz0, hz1, hz2⟩ := info_parts info5
  go_enter Try.func4, Try.ntmps4
  go_wp2_with (first | (go_at_call 8; refine (bytes4_fit s _ (by omega)).mono ?_; rintro e w' ⟨rfl, rfl⟩) | (at_make; refine wpList_make_own _ rfl _ _ 25 rfl w.heap.size 5 i0 (.int .u8 0) 1 Try.underlying25 hi hz0 hz1 _ _ _ (2 * s.size) rfl rfl ?b1 ?b2 ?b3 ?b4 ?_))
  case b1 => omega
  case b2 => rw [hz2]; omega
  case b3 => unfold maxLen; omega
  case b4 => exact Nat.le_refl _
  intro w1 hown hgrow
  have hbel : Below w.heap.size w w1 := (Below.refl _ _).grown hgrow (Nat.le_refl _) (by simp)
  clear hgrow
  go_wp2
  go_loopw [3, 4] (fun v i wr => ∃ (k : Nat) (acc : List UInt8), k ≤ s.size ∧ i = .int .i64 k ∧ wr.ownsRow w.heap.size 5 1 v acc.length (Lib.byteCells acc) ∧ Below w.heap.size w wr ∧ Hid (acc = escL (s.data.toList.take k)) ∧ acc.length ≤ 2 * k)
    (fun _ i _ => s.size - (intOf i).toNat)
  case atStart => exact ⟨0, [], Nat.zero_le _, rfl, hown, hbel, (rfl : [] = escL (s.data.toList.take 0)), Nat.le_refl _⟩
  case round =>
    obtain ⟨k, acc, hk, rfl, hownr, hbr, HA, hal⟩ := hrel
    clear hown hbel
    have hbw := hbr.size
    by_cases hlt : k < s.size
    · have hts := take_snoc s k hlt
      have hks := escL_snoc (s.data.toList.take k) s[k]
      rw [← hts] at hks
      have HKS : Hid (escL (s.data.toList.take (k + 1)) = escL (s.data.toList.take k) ++ (if esB s[k] then [92, s[k]] else [s[k]])) := hks
      clear hts hks
      by_cases t1 : ((s[k].toNat : Int) == 92) = true
      · have HN : Hid (esB s[k] = true) := es_yes (.inl t1)
        go_wp2_with (at_builtin; refine wpList_append_own _ rfl (.tmp 37) (.tmp 38) 25 rfl w.heap.size 5 i0 (.int .u8 0) 1 1 Try.underlying25 hi hz0 hz1 hz2 rfl (by decide) _ _ _ rfl (hownr.alloc _) ⟨wr.heap.size, 0, none⟩ 1 1 [.int .u8 92] rfl rfl (one_new _ _ _) (one_cell _ _) ?c3 ?c4 ?c5 ?_)
        case c3 => unfold maxLen; omega
        case c4 => omega
        case c5 => simp; omega
        intro v1 w2 hown1 hgrow _
        have ho2 := snoc_cells acc (92 : UInt8) hown1
        have hb2 : Below w.heap.size w w2 := (hbr.alloc (by omega) _).grown hgrow (by simp; omega) (fun k hk => (hownr.lt k hk).1)
        have hb2s := hb2.size
        have hal2 : (acc ++ [(92 : UInt8)]).length ≤ 2 * k + 1 := by simp; omega
        obtain ⟨ac2, hac2⟩ : ∃ ac2, ac2 = acc ++ [(92 : UInt8)] := ⟨_, rfl⟩
        rw [← hac2] at ho2 hal2
        have HC2 : Hid (ac2 = acc ++ [(92 : UInt8)]) := hac2
        clear hown1 hgrow hownr hac2
        go_wp2_with (at_builtin; refine wpList_append_own _ rfl (.tmp 40) (.tmp 42) 25 rfl w.heap.size 5 i0 (.int .u8 0) 1 1 Try.underlying25 hi hz0 hz1 hz2 rfl (by decide) _ _ _ rfl (ho2.alloc _) ⟨w2.heap.size, 0, none⟩ 1 1 [.int .u8 s[k].toNat] rfl rfl (one_new _ _ _) (one_cell _ _) ?d3 ?d4 ?d5 ?_)
        case d3 => unfold maxLen; omega
        case d4 => omega
        case d5 => simp; omega
        intro v3 w3 hown3 hgrow3 _
        have HO : Hid _ := snoc_cells ac2 s[k] hown3
        have hb3 : Below w.heap.size w w3 := (hb2.alloc (by omega) _).grown hgrow3 (by simp; omega) (fun k hk => (ho2.lt k hk).1)
        clear hown3 hgrow3 ho2
        go_wp2
        go_roundw
        case rel => exact ⟨k + 1, ac2 ++ [s[k]], by omega, by go_num, HO.out, hb3, (by rw [HKS.out, HN.out, HC2.out, HA.out]; simp : ac2 ++ [s[k]] = escL (s.data.toList.take (k + 1))), by simp; omega⟩
        case measure => simp [intOf]; omega
      · have t1' : ((s[k].toNat : Int) == 92) = false := by simpa using t1
        clear t1
        by_cases t2 : ((s[k].toNat : Int) == 44) = true
        · have HN : Hid (esB s[k] = true) := es_yes (.inr (.inl t2))
          go_wp2_with (at_builtin; refine wpList_append_own _ rfl (.tmp 37) (.tmp 38) 25 rfl w.heap.size 5 i0 (.int .u8 0) 1 1 Try.underlying25 hi hz0 hz1 hz2 rfl (by decide) _ _ _ rfl (hownr.alloc _) ⟨wr.heap.size, 0, none⟩ 1 1 [.int .u8 92] rfl rfl (one_new _ _ _) (one_cell _ _) ?c3 ?c4 ?c5 ?_)
          case c3 => unfold maxLen; omega
          case c4 => omega
          case c5 => simp; omega
          intro v1 w2 hown1 hgrow _
          have ho2 := snoc_cells acc (92 : UInt8) hown1
          have hb2 : Below w.heap.size w w2 := (hbr.alloc (by omega) _).grown hgrow (by simp; omega) (fun k hk => (hownr.lt k hk).1)
          have hb2s := hb2.size
          have hal2 : (acc ++ [(92 : UInt8)]).length ≤ 2 * k + 1 := by simp; omega
          obtain ⟨ac2, hac2⟩ : ∃ ac2, ac2 = acc ++ [(92 : UInt8)] := ⟨_, rfl⟩
          rw [← hac2] at ho2 hal2
          have HC2 : Hid (ac2 = acc ++ [(92 : UInt8)]) := hac2
          clear hown1 hgrow hownr hac2
          go_wp2_with (at_builtin; refine wpList_append_own _ rfl (.tmp 40) (.tmp 42) 25 rfl w.heap.size 5 i0 (.int .u8 0) 1 1 Try.underlying25 hi hz0 hz1 hz2 rfl (by decide) _ _ _ rfl (ho2.alloc _) ⟨w2.heap.size, 0, none⟩ 1 1 [.int .u8 s[k].toNat] rfl rfl (one_new _ _ _) (one_cell _ _) ?d3 ?d4 ?d5 ?_)
          case d3 => unfold maxLen; omega
          case d4 => omega
          case d5 => simp; omega
          intro v3 w3 hown3 hgrow3 _
          have HO : Hid _ := snoc_cells ac2 s[k] hown3
          have hb3 : Below w.heap.size w w3 := (hb2.alloc (by omega) _).grown hgrow3 (by simp; omega) (fun k hk => (ho2.lt k hk).1)
          clear hown3 hgrow3 ho2
          go_wp2
          go_roundw
          case rel => exact ⟨k + 1, ac2 ++ [s[k]], by omega, by go_num, HO.out, hb3, (by rw [HKS.out, HN.out, HC2.out, HA.out]; simp : ac2 ++ [s[k]] = escL (s.data.toList.take (k + 1))), by simp; omega⟩
          case measure => simp [intOf]; omega
        · have t2' : ((s[k].toNat : Int) == 44) = false := by simpa using t2
          clear t2
          by_cases t3 : ((s[k].toNat : Int) == 61) = true
          · have HN : Hid (esB s[k] = true) := es_yes (.inr (.inr t3))
            go_wp2_with (at_builtin; refine wpList_append_own _ rfl (.tmp 37) (.tmp 38) 25 rfl w.heap.size 5 i0 (.int .u8 0) 1 1 Try.underlying25 hi hz0 hz1 hz2 rfl (by decide) _ _ _ rfl (hownr.alloc _) ⟨wr.heap.size, 0, none⟩ 1 1 [.int .u8 92] rfl rfl (one_new _ _ _) (one_cell _ _) ?c3 ?c4 ?c5 ?_)
            case c3 => unfold maxLen; omega
            case c4 => omega
            case c5 => simp; omega
            intro v1 w2 hown1 hgrow _
            have ho2 := snoc_cells acc (92 : UInt8) hown1
            have hb2 : Below w.heap.size w w2 := (hbr.alloc (by omega) _).grown hgrow (by simp; omega) (fun k hk => (hownr.lt k hk).1)
            have hb2s := hb2.size
            have hal2 : (acc ++ [(92 : UInt8)]).length ≤ 2 * k + 1 := by simp; omega
            obtain ⟨ac2, hac2⟩ : ∃ ac2, ac2 = acc ++ [(92 : UInt8)] := ⟨_, rfl⟩
            rw [← hac2] at ho2 hal2
            have HC2 : Hid (ac2 = acc ++ [(92 : UInt8)]) := hac2
            clear hown1 hgrow hownr hac2
            go_wp2_with (at_builtin; refine wpList_append_own _ rfl (.tmp 40) (.tmp 42) 25 rfl w.heap.size 5 i0 (.int .u8 0) 1 1 Try.underlying25 hi hz0 hz1 hz2 rfl (by decide) _ _ _ rfl (ho2.alloc _) ⟨w2.heap.size, 0, none⟩ 1 1 [.int .u8 s[k].toNat] rfl rfl (one_new _ _ _) (one_cell _ _) ?d3 ?d4 ?d5 ?_)
            case d3 => unfold maxLen; omega
            case d4 => omega
            case d5 => simp; omega
            intro v3 w3 hown3 hgrow3 _
            have HO : Hid _ := snoc_cells ac2 s[k] hown3
            have hb3 : Below w.heap.size w w3 := (hb2.alloc (by omega) _).grown hgrow3 (by simp; omega) (fun k hk => (ho2.lt k hk).1)
            clear hown3 hgrow3 ho2
            go_wp2
            go_roundw
            case rel => exact ⟨k + 1, ac2 ++ [s[k]], by omega, by go_num, HO.out, hb3, (by rw [HKS.out, HN.out, HC2.out, HA.out]; simp : ac2 ++ [s[k]] = escL (s.data.toList.take (k + 1))), by simp; omega⟩
            case measure => simp [intOf]; omega
          · have t3' : ((s[k].toNat : Int) == 61) = false := by simpa using t3
            clear t3
            have HN : Hid (esB s[k] = false) := es_no t1' t2' t3'
            go_wp2_with (at_builtin; refine wpList_append_own _ rfl (.tmp 40) (.tmp 42) 25 rfl w.heap.size 5 i0 (.int .u8 0) 1 1 Try.underlying25 hi hz0 hz1 hz2 rfl (by decide) _ _ _ rfl (hownr.alloc _) ⟨wr.heap.size, 0, none⟩ 1 1 [.int .u8 s[k].toNat] rfl rfl (one_new _ _ _) (one_cell _ _) ?c3 ?c4 ?c5 ?_)
            case c3 => unfold maxLen; omega
            case c4 => omega
            case c5 => simp; omega
            intro v3 w3 hown3 hgrow3 _
            have HO : Hid _ := snoc_cells acc s[k] hown3
            have hb3 : Below w.heap.size w w3 := (hbr.alloc (by omega) _).grown hgrow3 (by simp; omega) (fun k hk => (hownr.lt k hk).1)
            clear hown3 hgrow3 hownr
            go_wp2
            go_roundw
            case rel => exact ⟨k + 1, acc ++ [s[k]], by omega, by go_num, HO.out, hb3, (by rw [HKS.out, HN.out, HA.out]; simp : acc ++ [s[k]] = escL (s.data.toList.take (k + 1))), by simp; omega⟩
            case measure => simp [intOf]; omega
    · have hconv := conv_own hownr
      have HE : Hid (acc = escL s.data.toList) := by
        have e := HA.out
        rw [List.take_of_length_le (by simp; omega)] at e
        exact e
      have HUF : Hid (unf (ByteArray.mk acc.toArray).data.toList = some s.data.toList) := by
        show unf acc = some s.data.toList
        rw [HE.out]; exact unf_escL _
      have hsz : (ByteArray.mk acc.toArray).size ≤ 1048576 := by
        show acc.toArray.size ≤ 1048576
        simp; omega
      have hst : s.toList = s.data.toList := ByteArray.toList_eq s
      go_wp2_with fail
      refine (zun_some (ByteArray.mk acc.toArray) wr hsz _ HUF.out).mono ?_
      rintro e w2 ⟨rfl, hb2⟩
      clear hconv
      go_wp2
      go_ret
      exact ⟨rfl, hbr.trans (hb2.mono hbw)⟩

set_option maxHeartbeats 400000 in
theorem undo_long (s : ByteArray) (w0 : s.size ≤ maxLen) (w : World) (h : ¬ s.size ≤ 1048576) :
    Calls Try.prog 4 #[.string s] w fun e w' => e = .returned (.bool true) ∧ Below w.heap.size w w' := by
  go_enter Try.func4, Try.ntmps4
  go_wp2_with (go_at_call 8; refine (bytes4_not s _ w0 h).mono ?_; rintro e w' ⟨rfl, rfl⟩)
  go_ret
  exact ⟨rfl, Below.refl _ _⟩

set_option maxHeartbeats 400000 in
theorem undo_half (s : ByteArray) (w : World) (h : s.size ≤ 1048576) (h2 : ¬ s.size ≤ 524288) :
    Calls Try.prog 4 #[.string s] w fun e w' => e = .returned (.bool true) ∧ Below w.heap.size w w' := by
  go_enter Try.func4, Try.ntmps4
  go_wp2_with (go_at_call 8; refine (bytes4_fit s _ h).mono ?_; rintro e w' ⟨rfl, rfl⟩)
  go_ret
  exact ⟨rfl, Below.refl _ _⟩

theorem undo_any (s : ByteArray) (w0 : s.size ≤ maxLen) (w : World) :
    Calls Try.prog 4 #[.string s] w fun e w' => e = .returned (.bool true) ∧ Below w.heap.size w w' := by
  by_cases h : s.size ≤ 1048576
  · by_cases h2 : s.size ≤ 524288
    · exact undo_fits s w h2
    · exact undo_half s w h h2
  · exact undo_long s w0 w h

end Go.Proofs.Qxb6600459a
