import Derived.Test.Qxb6613957aWalkB
import Derived.Lib.Strings
import Derived.Lib.Builder
import Derived.Test.Qxb6613957aShelf
set_option linter.unusedSimpArgs false
set_option linter.unusedVariables false
namespace Go.Proofs.Qxb6613957a
open Go.RowKit

theorem drop_cons (s : ByteArray) (k : Nat) (h : k < s.size) : s.data.toList.drop k = s[k] :: s.data.toList.drop (k + 1) := by
  rw [List.drop_eq_getElem_cons (by simpa using h)]; rfl

theorem at_data (s : ByteArray) (k : Nat) (h : k < s.size) : s.data.toList[k]? = some s[k] := by
  rw [List.getElem?_eq_getElem (by simpa using h)]; rfl

theorem byte_ne {c : UInt8} (h : ((c.toNat : Int) != 92) = true) : c ≠ 92 := by
  intro e; subst e; simp at h
theorem byte_eq {c : UInt8} (h : ((c.toNat : Int) != 92) = false) : c = 92 := by
  have : (c.toNat : Int) = 92 := by simpa using h
  exact UInt8.toNat_inj.1 (by rw [show (92 : UInt8).toNat = 92 from rfl]; omega)
theorem byte_eq' {c : UInt8} (h : ((c.toNat : Int) == 92) = true) : c = 92 := byte_eq (by simpa using h)
theorem byte_ne' {c : UInt8} (h : ((c.toNat : Int) == 92) = false) : c ≠ 92 := byte_ne (by simpa using h)

theorem snoc_cells (acc : List UInt8) (c : UInt8) {w : World} {B : Nat} {v : Value} (h : w.ownsRow B 5 1 v (acc.length + 1) (Lib.byteCells acc ++ [.int .u8 c.toNat])) :
    w.ownsRow B 5 1 v (acc ++ [c]).length (Lib.byteCells (acc ++ [c])) := by
  rw [Lib.byteCells_append, List.length_append]; exact h

theorem one_new (w : World) (x : Value) (t : TypeId) : ∀ j u, [x][j]? = some u → (w.alloc (.cells #[x] t)).cell? ((⟨w.heap.size, 0, none⟩ : Addr).add j) = some u := by
  intro j u hj
  match j, hj with
  | 0, hj => simp at hj; subst hj; simp [Addr.add]

theorem one_cell (k : IntKind) (z : Int) : ∀ u ∈ [Value.int k z], u.oneCell' = true := by
  intro u hu; simp at hu; subst hu; rfl

theorem snoc_rep {ac acc : List UInt8} {t : Nat} (h : ac = acc ++ List.replicate t 92) : ac ++ [92] = acc ++ List.replicate (t + 1) 92 := by
  rw [h, List.replicate_succ']; simp

theorem close_no {L acc ac : List UInt8} {q : Bool} {k n : Nat} (HI : acc ++ unesc q (L.drop k) = unesc q L) (HA : ac = acc ++ List.replicate (n / 2) 92)
    (hr : ∀ t, k ≤ t → t < k + n → L[t]? = some 92) (hend : ∀ b, L[k + n]? = some b → b ≠ 92) (hn : ¬ (n % 2 = 1 ∧ stays q (L.drop (k + n)) = true)) :
    ac ++ unesc q (L.drop (k + n)) = unesc q L := by
  have := run_step L q k n acc hr hend HI
  rw [if_neg hn] at this
  rw [HA]; simpa using this

theorem close_yes {L acc ac : List UInt8} {q : Bool} {k n : Nat} (HI : acc ++ unesc q (L.drop k) = unesc q L) (HA : ac = acc ++ List.replicate (n / 2) 92)
    (hr : ∀ t, k ≤ t → t < k + n → L[t]? = some 92) (hend : ∀ b, L[k + n]? = some b → b ≠ 92) (hn : n % 2 = 1 ∧ stays q (L.drop (k + n)) = true) :
    (ac ++ [92]) ++ unesc q (L.drop (k + n)) = unesc q L := by
  have := run_step L q k n acc hr hend HI
  rw [if_pos hn] at this
  rw [HA]; simpa using this

set_option maxHeartbeats 2000000 in
theorem model_any (s : ByteArray) (q : Bool) (w : World) (hs : s.size ≤ 524288) :
    Calls Try.prog 20 #[.string s, .bool q] w fun e w' => ∃ v, e = .returned v ∧
      w'.ownsRow w.heap.size 5 1 v (unesc q s.data.toList).length (Lib.byteCells (unesc q s.data.toList)) ∧ Below w.heap.size w w' := by
  obtain ⟨i0, hi, hz0, hz1, hz2⟩ := info_parts info5
  go_enter Try.func20, Try.ntmps20
  go_wp2_with (at_make; refine wpList_make_own _ rfl _ _ 27 rfl w.heap.size 5 i0 (.int .u8 0) 1 Try.underlying27 hi hz0 hz1 _ _ _ s.size rfl rfl rfl ?b2 ?b3 ?b4 ?_)
  case b2 => rw [hz2]; omega
  case b3 => unfold maxLen; omega
  case b4 => exact Nat.le_refl _
  intro w1 hown hgrow
  have hbel : Below w.heap.size w w1 := (Below.refl _ _).grown hgrow (Nat.le_refl _) (by simp)
  clear hgrow
  go_wp2
  go_loopw [5, 6] (fun v i wr => ∃ (k : Nat) (acc : List UInt8), k ≤ s.size ∧ i = .int .i64 k ∧ wr.ownsRow w.heap.size 5 1 v acc.length (Lib.byteCells acc) ∧ Below w.heap.size w wr ∧
      Hid (acc ++ unesc q (s.data.toList.drop k) = unesc q s.data.toList) ∧ acc.length ≤ k)
    (fun _ i _ => s.size - (intOf i).toNat)
  case atStart => exact ⟨0, [], Nat.zero_le _, rfl, hown, hbel, (by simp : [] ++ unesc q (s.data.toList.drop 0) = unesc q s.data.toList), Nat.le_refl _⟩
  case round =>
    obtain ⟨k, acc, hk, rfl, hownr, hbr, HI, hal⟩ := hrel
    clear hown hbel
    have hbw := hbr.size
    by_cases hlt : k < s.size
    · by_cases hb : ((s[k].toNat : Int) != 92) = true
      · have HB : Hid (s[k] ≠ 92) := byte_ne hb
        go_wp2_with (first
          | (at_builtin; refine wpList_append_own _ rfl (.tmp 21) (.tmp 25) 27 rfl w.heap.size 5 i0 (.int .u8 0) 1 1 Try.underlying27 hi hz0 hz1 hz2 rfl (by decide) _ _ _ rfl (hownr.alloc _) ⟨wr.heap.size, 0, none⟩ 1 1 [.int .u8 s[k].toNat] rfl rfl (one_new _ _ _) (one_cell _ _) ?c3 ?c4 ?c5 ?_))
        case c3 => unfold maxLen; omega
        case c4 => omega
        case c5 => simp; omega
        intro v' w2 hown' hgrow _
        have HO : Hid _ := hown'
        have hb2 : Below w.heap.size w w2 := (hbr.alloc (by omega) _).grown hgrow (by simp; omega) (fun k hk => (hownr.lt k hk).1)
        clear hown' hgrow hownr
        go_wp2
        go_roundw
        case rel => exact ⟨k + 1, acc ++ [s[k]], by omega, by go_num, snoc_cells acc _ HO.out, hb2, (by rw [← HI.out, drop_cons s k hlt, unesc_plain _ _ _ HB.out]; simp : (acc ++ [s[k]]) ++ unesc q (s.data.toList.drop (k + 1)) = unesc q s.data.toList), by simp; omega⟩
        case measure => simp [intOf]; omega
      · have hb' : ((s[k].toNat : Int) != 92) = false := by simpa using hb
        clear hb
        have HB : Hid (s[k] = 92) := byte_eq hb'
        go_wp2
        go_loop [7] (fun j => ∃ n : Nat, k + n ≤ s.size ∧ j = .int .i64 (k + n : Nat) ∧ Hid (∀ t, k ≤ t → t < k + n → s.data.toList[t]? = some 92)) (fun j => s.size - (intOf j).toNat)
        case atStart => exact ⟨0, by omega, by go_num, fun t h1 h2 => by omega⟩
        case round =>
          obtain ⟨n, hn, rfl, HR⟩ := hrel
          by_cases hm : k + n < s.size
          · by_cases hc : ((s[k + n].toNat : Int) == 92) = true
            · have HC : Hid (s[k + n] = 92) := byte_eq' hc
              go_wp2
              go_round
              case rel =>
                refine ⟨n + 1, by omega, by go_num, fun t h1 h2 => ?_⟩
                by_cases e : t = k + n
                · subst e; rw [at_data s _ hm, HC.out]
                · exact HR.out t h1 (by omega)
              case measure => simp [intOf]; omega
            · have hc' : ((s[k + n].toNat : Int) == 92) = false := by simpa using hc
              clear hc
              have HE : Hid (∀ b, s.data.toList[k + n]? = some b → b ≠ 92) := fun b hbb => by
                rw [at_data s _ hm] at hbb; exact Option.some.inj hbb ▸ byte_ne' hc'
              have HT : Hid (stays q (s.data.toList.drop (k + n)) = (q && !isSp s[k + n])) := stays_at q _ _ _ (at_data s _ hm)
              have hn1 : 1 ≤ n := by
                rcases Nat.eq_zero_or_pos n with h0 | h0
                · subst h0; exact absurd HB.out (HE.out s[k] (at_data s _ hlt))
                · exact h0
              go_wp2
              rw [show ((k : Int) + (n : Int) - (k : Int)) = (n : Int) from by omega]
              obtain ⟨wo, rfl⟩ : ∃ wo : World, wo = wr := ⟨_, rfl⟩
              go_loopw [5, 9] (fun v h wr => ∃ (t : Nat) (ac : List UInt8), t ≤ n / 2 ∧ h = .int .i64 t ∧ wr.ownsRow w.heap.size 5 1 v ac.length (Lib.byteCells ac) ∧ Below w.heap.size w wr ∧ Hid (ac = acc ++ List.replicate t 92) ∧ ac.length ≤ acc.length + t)
                (fun _ h _ => n / 2 - (intOf h).toNat)
              case atStart => exact ⟨0, acc, Nat.zero_le _, rfl, hownr, hbr, (by simp : acc = acc ++ List.replicate 0 92), Nat.le_refl _⟩
              case round =>
                obtain ⟨t, ac, ht, rfl, hown2, hb2, HA, hal2⟩ := hrel
                have hbw2 := hb2.size
                clear hownr hbr
                by_cases htl : t < n / 2
                · go_wp2_with (first
                    | (at_builtin; refine wpList_append_own _ rfl (.tmp 51) (.tmp 52) 27 rfl w.heap.size 5 i0 (.int .u8 0) 1 1 Try.underlying27 hi hz0 hz1 hz2 rfl (by decide) _ _ _ rfl (hown2.alloc _) ⟨wr.heap.size, 0, none⟩ 1 1 [.int .u8 92] rfl rfl (one_new _ _ _) (one_cell _ _) ?c3 ?c4 ?c5 ?_))
                  case c3 => unfold maxLen; omega
                  case c4 => omega
                  case c5 => simp; omega
                  intro v' w2 hown' hgrow _
                  have HO : Hid _ := snoc_cells _ (92 : UInt8) hown'
                  have hb3 : Below w.heap.size w w2 := (hb2.alloc (by omega) _).grown hgrow (by simp; omega) (fun k hk => (hown2.lt k hk).1)
                  clear hown' hgrow hown2
                  go_wp2
                  go_roundw
                  case rel => exact ⟨t + 1, ac ++ [92], by omega, by go_num, HO.out, hb3, snoc_rep HA.out, by simp; omega⟩
                  case measure => simp [intOf]; omega
                · have HA' : Hid (ac = acc ++ List.replicate (n / 2) 92) := by rw [show n / 2 = t by omega]; exact HA
                  clear HA
                  by_cases hodd : n % 2 = 1
                  · cases q
                    · go_wp2
                      go_roundw
                      case rel => exact ⟨k + n, ac, by omega, by go_num, hown2, hb2, close_no HI.out HA'.out HR.out HE.out (by rw [HT.out]; simp), by omega⟩
                      case measure => simp [intOf]; omega
                    · cases hsp : isSp s[k + n]
                      · go_wp2_with (first | (go_at_call 31; refine (special_any _ _).mono ?_; rintro e w' ⟨rfl, hw⟩; obtain rfl := hw.symm) | (at_builtin; refine wpList_append_own _ rfl (.tmp 71) (.tmp 72) 27 rfl w.heap.size 5 i0 (.int .u8 0) 1 1 Try.underlying27 hi hz0 hz1 hz2 rfl (by decide) _ _ _ rfl (hown2.alloc _) ⟨wr.heap.size, 0, none⟩ 1 1 [.int .u8 92] rfl rfl (one_new _ _ _) (one_cell _ _) ?c3 ?c4 ?c5 ?_))
                        case c3 => unfold maxLen; omega
                        case c4 => omega
                        case c5 => simp; omega
                        intro v' w2 hown' hgrow _
                        have HO : Hid _ := snoc_cells _ (92 : UInt8) hown'
                        have hb3 : Below w.heap.size w w2 := (hb2.alloc (by omega) _).grown hgrow (by simp; omega) (fun k hk => (hown2.lt k hk).1)
                        clear hown' hgrow hown2
                        go_wp2
                        go_roundw
                        case rel => exact ⟨k + n, ac ++ [92], by omega, by go_num, HO.out, hb3, close_yes HI.out HA'.out HR.out HE.out (by rw [HT.out, hsp]; simpa using hodd), by simp; omega⟩
                        case measure => simp [intOf]; omega
                      · go_wp2_with (go_at_call 31; refine (special_any _ _).mono ?_; rintro e w' ⟨rfl, rfl⟩)
                        go_roundw
                        case rel => exact ⟨k + n, ac, by omega, by go_num, hown2, hb2, close_no HI.out HA'.out HR.out HE.out (by rw [HT.out, hsp]; simp), by omega⟩
                        case measure => simp [intOf]; omega
                  · go_wp2
                    go_roundw
                    case rel => exact ⟨k + n, ac, by omega, by go_num, hown2, hb2, close_no HI.out HA'.out HR.out HE.out (by simp [hodd]), by omega⟩
                    case measure => simp [intOf]; omega
          · have HE : Hid (∀ b, s.data.toList[k + n]? = some b → b ≠ 92) := fun b hbb => by
              rw [List.getElem?_eq_none (by simp; omega)] at hbb; cases hbb
            have HT : Hid (stays q (s.data.toList.drop (k + n)) = true) := stays_end q _ _ (by simp; omega)
            have hn1 : 1 ≤ n := by omega
            go_wp2
            rw [show ((k : Int) + (n : Int) - (k : Int)) = (n : Int) from by omega]
            obtain ⟨wo, rfl⟩ : ∃ wo : World, wo = wr := ⟨_, rfl⟩
            go_loopw [5, 9] (fun v h wr => ∃ (t : Nat) (ac : List UInt8), t ≤ n / 2 ∧ h = .int .i64 t ∧ wr.ownsRow w.heap.size 5 1 v ac.length (Lib.byteCells ac) ∧ Below w.heap.size w wr ∧ Hid (ac = acc ++ List.replicate t 92) ∧ ac.length ≤ acc.length + t)
              (fun _ h _ => n / 2 - (intOf h).toNat)
            case atStart => exact ⟨0, acc, Nat.zero_le _, rfl, hownr, hbr, (by simp : acc = acc ++ List.replicate 0 92), Nat.le_refl _⟩
            case round =>
              obtain ⟨t, ac, ht, rfl, hown2, hb2, HA, hal2⟩ := hrel
              have hbw2 := hb2.size
              clear hownr hbr
              by_cases htl : t < n / 2
              · go_wp2_with (first
                  | (at_builtin; refine wpList_append_own _ rfl (.tmp 51) (.tmp 52) 27 rfl w.heap.size 5 i0 (.int .u8 0) 1 1 Try.underlying27 hi hz0 hz1 hz2 rfl (by decide) _ _ _ rfl (hown2.alloc _) ⟨wr.heap.size, 0, none⟩ 1 1 [.int .u8 92] rfl rfl (one_new _ _ _) (one_cell _ _) ?c3 ?c4 ?c5 ?_))
                case c3 => unfold maxLen; omega
                case c4 => omega
                case c5 => simp; omega
                intro v' w2 hown' hgrow _
                have HO : Hid _ := snoc_cells _ (92 : UInt8) hown'
                have hb3 : Below w.heap.size w w2 := (hb2.alloc (by omega) _).grown hgrow (by simp; omega) (fun k hk => (hown2.lt k hk).1)
                clear hown' hgrow hown2
                go_wp2
                go_roundw
                case rel => exact ⟨t + 1, ac ++ [92], by omega, by go_num, HO.out, hb3, snoc_rep HA.out, by simp; omega⟩
                case measure => simp [intOf]; omega
              · have HA' : Hid (ac = acc ++ List.replicate (n / 2) 92) := by rw [show n / 2 = t by omega]; exact HA
                clear HA
                by_cases hodd : n % 2 = 1
                · go_wp2_with (first | (at_builtin; refine wpList_append_own _ rfl (.tmp 71) (.tmp 72) 27 rfl w.heap.size 5 i0 (.int .u8 0) 1 1 Try.underlying27 hi hz0 hz1 hz2 rfl (by decide) _ _ _ rfl (hown2.alloc _) ⟨wr.heap.size, 0, none⟩ 1 1 [.int .u8 92] rfl rfl (one_new _ _ _) (one_cell _ _) ?c3 ?c4 ?c5 ?_))
                  case c3 => unfold maxLen; omega
                  case c4 => omega
                  case c5 => simp; omega
                  intro v' w2 hown' hgrow _
                  have HO : Hid _ := snoc_cells _ (92 : UInt8) hown'
                  have hb3 : Below w.heap.size w w2 := (hb2.alloc (by omega) _).grown hgrow (by simp; omega) (fun k hk => (hown2.lt k hk).1)
                  clear hown' hgrow hown2
                  go_wp2
                  go_roundw
                  case rel => exact ⟨k + n, ac ++ [92], by omega, by go_num, HO.out, hb3, close_yes HI.out HA'.out HR.out HE.out (by rw [HT.out]; simpa using hodd), by simp; omega⟩
                  case measure => simp [intOf]; omega
                · go_wp2
                  go_roundw
                  case rel => exact ⟨k + n, ac, by omega, by go_num, hown2, hb2, close_no HI.out HA'.out HR.out HE.out (by simp [hodd]), by omega⟩
                  case measure => simp [intOf]; omega
    · go_wp2
      go_ret
      have e := HI.out
      rw [List.drop_of_length_le (by simp; omega)] at e
      simp only [unesc, List.append_nil] at e
      exact ⟨_, rfl, by rw [← e]; exact hownr, hbr⟩

end Go.Proofs.Qxb6613957a
