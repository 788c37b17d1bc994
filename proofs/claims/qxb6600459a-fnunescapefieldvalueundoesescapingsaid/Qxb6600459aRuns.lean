/-
  THE WALK OF FnUnescapeFieldValueByBackslashRuns.
-/
import Derived.Test.Qxb6600459aUn
import Derived.Laws.IdiomStrings
import Derived.Laws.BytesArg
set_option linter.unusedSimpArgs false
set_option linter.unusedVariables false
namespace Go.Proofs.Qxb6600459a
open Go.RowKit

set_option maxHeartbeats 400000 in
theorem zun_some (s : ByteArray) (w : World) (hs : s.size ≤ 1048576) (l : List UInt8) (h : unf s.data.toList = some l) :
    Calls Try.prog 7 #[.string s] w fun e w' => e = .returned (.tuple #[.string ⟨l.toArray⟩, .bool true]) ∧ Below w.heap.size w w' := by
  have H : Hid (unf s.data.toList = some l) := h
  clear h
  go_enter Try.func7, Try.ntmps7
  go_wp2_with fail
  refine (un_any s w hs).mono ?_
  rintro e w' ⟨he, hb⟩
  have he2 : e = .returned (.tuple #[.string ⟨l.toArray⟩, .bool true]) := by
    rcases he with ⟨l', h1, h2⟩ | ⟨h1, h2⟩
    · rw [H.out] at h1; cases h1; exact h2
    · rw [H.out] at h1; cases h1
  subst he2
  go_wp2
  go_ret2
  exact ⟨rfl, hb⟩

set_option maxHeartbeats 400000 in
theorem zun_none (s : ByteArray) (w : World) (hs : s.size ≤ 1048576) (h : unf s.data.toList = none) :
    Calls Try.prog 7 #[.string s] w fun e w' => e = .returned (.tuple #[.string ⟨#[]⟩, .bool false]) ∧ Below w.heap.size w w' := by
  have H : Hid (unf s.data.toList = none) := h
  clear h
  go_enter Try.func7, Try.ntmps7
  go_wp2_with fail
  refine (un_any s w hs).mono ?_
  rintro e w' ⟨he, hb⟩
  have he2 : e = .returned (.tuple #[.string ⟨#[]⟩, .bool false]) := by
    rcases he with ⟨l', h1, h2⟩ | ⟨h1, h2⟩
    · rw [H.out] at h1; cases h1
    · exact h2
  subst he2
  go_wp2
  go_ret2
  exact ⟨rfl, hb⟩

set_option maxHeartbeats 400000 in
theorem bytes3_fit (a : ByteArray) (w : World) (h : a.size ≤ 1048576) :
    Calls Try.prog 6 #[.string a] w fun e w' => e = .returned (.bool true) ∧ w = w' := by
  go_enter Try.func6, Try.ntmps6
  go_wp2
  go_ret
  exact ⟨rfl, rfl⟩

set_option maxHeartbeats 400000 in
theorem bytes3_not (a : ByteArray) (w : World) (ha : a.size ≤ maxLen) (h : ¬ a.size ≤ 1048576) :
    Calls Try.prog 6 #[.string a] w fun e w' => e = .returned (.bool false) ∧ w = w' := by
  unfold maxLen at ha
  go_enter Try.func6, Try.ntmps6
  go_wp2
  go_ret
  exact ⟨rfl, rfl⟩

theorem info5 : (Try.prog.info? 5).map (fun i => (i.zero, i.size, i.bytes)) = some (some (.int .u8 0), 1, 1) := by kernel_rfl

/-- 'string(v)' of a row that the call owns. -/
theorem conv_own {B : Nat} {v : Value} {l : List UInt8} {w : World} (h : w.ownsRow B 5 1 v l.length (Lib.byteCells l)) :
    (convert 25 9 v).run Try.prog w = .ok (.string ⟨l.toArray⟩) w := by
  rcases h.2 with ⟨rfl, h0⟩ | ⟨g, cap, cur, rfl, _, hg, _⟩
  · have : l = [] := List.eq_nil_of_length_eq_zero h0
    subst this
    exact run_convert_bytes_nil w 25 5 Try.underlying25 Try.underlying5 0 0 9 Try.underlying9
  · refine run_convert_bytes_back w 25 9 5 ⟨g, 0, none⟩ cap l Try.underlying25 Try.underlying5 Try.underlying9 ?_
    intro j hj
    exact h.cells (g := g) rfl j _ (by simp [Lib.byteCells, hj])

theorem snoc_cells (acc : List UInt8) (c : UInt8) {w : World} {B : Nat} {v : Value} (h : w.ownsRow B 5 1 v (acc.length + 1) (Lib.byteCells acc ++ [.int .u8 c.toNat])) :
    w.ownsRow B 5 1 v (acc ++ [c]).length (Lib.byteCells (acc ++ [c])) := by
  rw [Lib.byteCells_append, List.length_append]; exact h

theorem one_new (w : World) (x : Value) (t : TypeId) : ∀ j u, [x][j]? = some u → (w.alloc (.cells #[x] t)).cell? ((⟨w.heap.size, 0, none⟩ : Addr).add j) = some u := by
  intro j u hj
  match j, hj with
  | 0, hj => simp at hj; subst hj; simp [Addr.add]

theorem one_cell (k : IntKind) (z : Int) : ∀ u ∈ [Value.int k z], u.oneCell' = true := by
  intro u hu; simp at hu; subst hu; rfl

theorem snoc_rep {ac acc : List UInt8} {t : Nat} (h : ac = acc ++ List.replicate t 92) : ac ++ [92] = acc ++ List.replicate (t + 1) 92 := by
  rw [h, List.replicate_succ']; simp

theorem ne_byte (c k : UInt8) (b : Bool) (h : ((c.toNat : Int) != (k.toNat : Int)) = b) : (c != k) = b := by
  rw [← h]
  unfold bne
  rw [byte_is]

set_option maxRecDepth 100000 in
set_option maxHeartbeats 4000000 in
theorem runs_none (s : ByteArray) (w : World) (hs : s.size ≤ 1048576) (hu : unf s.data.toList = none) :
    Calls Try.prog 3 #[.string s] w fun e w' => e = .returned (.bool true) ∧ Below w.heap.size w w' := by
  obtain ⟨i0, hi, hz0, hz1, hz2⟩ := info_parts info5
  have HU : Hid (unf s.data.toList = none) := hu
  clear hu
  go_enter Try.func3, Try.ntmps3
  go_wp2_with (go_at_call 6; refine (bytes3_fit s _ hs).mono ?_; rintro e w' ⟨rfl, rfl⟩)
  refine (zun_none s w hs HU.out).mono ?_
  rintro e w0 ⟨rfl, hb0⟩
  have hs0 := hb0.size
  go_wp2_with (at_make; refine wpList_make_own _ rfl _ _ 25 rfl w.heap.size 5 i0 (.int .u8 0) 1 Try.underlying25 hi hz0 hz1 _ _ _ s.size rfl rfl rfl ?b2 ?b3 ?b4 ?_)
  case b2 => rw [hz2]; omega
  case b3 => unfold maxLen; omega
  case b4 => exact hs0
  intro w1 hown hgrow
  have hbel : Below w.heap.size w w1 := hb0.grown hgrow hs0 (by simp)
  clear hgrow hb0
  go_wp2
  go_loopw [5, 6, 7] (fun v ok i wr => ∃ (k : Nat) (acc : List UInt8), k ≤ s.size ∧ ok = .bool true ∧ i = .int .i64 k ∧ wr.ownsRow w.heap.size 5 1 v acc.length (Lib.byteCells acc) ∧ Below w.heap.size w wr ∧
      Hid (unf s.data.toList = (unf (s.data.toList.drop k)).map (acc ++ ·)) ∧ acc.length ≤ k)
    (fun _ _ i _ => s.size - (intOf i).toNat)
  case atStart => exact ⟨0, [], Nat.zero_le _, rfl, rfl, hown, hbel, map_nil _, Nat.le_refl _⟩
  case round =>
    obtain ⟨k, acc, hk, rfl, rfl, hownr, hbr, HI, hal⟩ := hrel
    clear hown hbel
    have hbw := hbr.size
    by_cases hlt : k < s.size
    · by_cases hb : ((s[k].toNat : Int) != 92) = true
      · have HB : Hid (s[k] ≠ 92) := byte_ne hb
        go_wp2_with (first
          | (at_builtin; refine wpList_append_own _ rfl (.tmp 33) (.tmp 37) 25 rfl w.heap.size 5 i0 (.int .u8 0) 1 1 Try.underlying25 hi hz0 hz1 hz2 rfl (by decide) _ _ _ rfl (hownr.alloc _) ⟨wr.heap.size, 0, none⟩ 1 1 [.int .u8 s[k].toNat] rfl rfl (one_new _ _ _) (one_cell _ _) ?c3 ?c4 ?c5 ?_))
        case c3 => unfold maxLen; omega
        case c4 => omega
        case c5 => simp; omega
        intro v' w2 hown' hgrow _
        have HO : Hid _ := snoc_cells _ s[k] hown'
        have hb2 : Below w.heap.size w w2 := (hbr.alloc (by omega) _).grown hgrow (by simp; omega) (fun k hk => (hownr.lt k hk).1)
        clear hown' hgrow hownr
        go_wp2
        go_roundw
        case rel => exact ⟨k + 1, acc ++ [s[k]], by omega, rfl, by go_num, HO.out, hb2, (by rw [HI.out, drop_cons s k hlt, unf_plain _ _ HB.out, map_snoc] : unf s.data.toList = (unf (s.data.toList.drop (k + 1))).map ((acc ++ [s[k]]) ++ ·)), by simp; omega⟩
        case measure => simp [intOf]; omega
      · have hb' : ((s[k].toNat : Int) != 92) = false := by simpa using hb
        clear hb
        have HB : Hid (s[k] = 92) := byte_eq hb'
        go_wp2
        go_loop [8] (fun j => ∃ n : Nat, k + n ≤ s.size ∧ j = .int .i64 (k + n : Nat) ∧ Hid (∀ t, k ≤ t → t < k + n → s.data.toList[t]? = some 92)) (fun j => s.size - (intOf j).toNat)
        case atStart => exact ⟨0, by omega, by go_num, fun t h1 h2 => by omega⟩
        case round =>
          obtain ⟨n, hn, rfl, HR⟩ := hrel
          by_cases hm : k + n < s.size
          · by_cases hc : ((s[k + n].toNat : Int) == 92) = true
            · have HC : Hid (s[k + n] = 92) := byte_eq' hc
              go_wp2
              go_round
              case rel =>
                refine ⟨n + 1, by omega, by go_num, fun t h1 h2 => ?_⟩
                by_cases e : t = k + n
                · subst e; rw [at_data s _ hm, HC.out]
                · exact HR.out t h1 (by omega)
              case measure => simp [intOf]; omega
            · have hc' : ((s[k + n].toNat : Int) == 92) = false := by simpa using hc
              clear hc
              have HE : Hid (∀ b, s.data.toList[k + n]? = some b → b ≠ 92) := fun b hbb => by
                rw [at_data s _ hm] at hbb; exact Option.some.inj hbb ▸ byte_ne' hc'
              have hn1 : 1 ≤ n := by
                rcases Nat.eq_zero_or_pos n with h0 | h0
                · subst h0; exact absurd HB.out (HE.out s[k] (at_data s _ hlt))
                · exact h0
              have HT : Hid (bad (s.data.toList.drop (k + n)) = ((s[k + n] != 44) && (s[k + n] != 61))) := bad_at _ _ _ (at_data s _ hm)
              have hjl : ((k : Int) + (n : Int) == (s.size : Int)) = false := by simp only [beq_eq_false_iff_ne]; omega
              by_cases hodd : n % 2 = 1
              · by_cases t44 : ((s[k + n].toNat : Int) != 44) = true
                · by_cases t61 : ((s[k + n].toNat : Int) != 61) = true
                  · have HBD : Hid (bad (s.data.toList.drop (k + n)) = true) := by
                      show bad (s.data.toList.drop (k + n)) = true
                      rw [HT.out, ne_byte s[k + n] 44 true t44, ne_byte s[k + n] 61 true t61]; rfl
                    go_wp2
                    go_ret
                    exact ⟨rfl, hbr⟩
                  · have t61' : ((s[k + n].toNat : Int) != 61) = false := by simpa using t61
                    clear t61
                    have HNB : Hid (¬ (n % 2 = 1 ∧ bad (s.data.toList.drop (k + n)) = true)) := fun h => by
                      have h2 := h.2
                      rw [HT.out, ne_byte s[k + n] 61 false t61'] at h2
                      simp at h2
                    go_wp2
                    rw [show ((k : Int) + (n : Int) - (k : Int)) = (n : Int) from by omega]
                    obtain ⟨wo, rfl⟩ : ∃ wo : World, wo = wr := ⟨_, rfl⟩
                    go_loopw [5, 10] (fun v h wr => ∃ (t : Nat) (ac : List UInt8), t ≤ n / 2 ∧ h = .int .i64 t ∧ wr.ownsRow w.heap.size 5 1 v ac.length (Lib.byteCells ac) ∧ Below w.heap.size w wr ∧ Hid (ac = acc ++ List.replicate t 92) ∧ ac.length ≤ acc.length + t)
                      (fun _ h _ => n / 2 - (intOf h).toNat)
                    case atStart => exact ⟨0, acc, Nat.zero_le _, rfl, hownr, hbr, (by simp : acc = acc ++ List.replicate 0 92), Nat.le_refl _⟩
                    case round =>
                      obtain ⟨t, ac, ht, rfl, hown2, hb2, HA, hal2⟩ := hrel
                      have hbw2 := hb2.size
                      clear hownr hbr
                      by_cases htl : t < n / 2
                      · go_wp2_with (first
                          | (at_builtin; refine wpList_append_own _ rfl (.tmp 84) (.tmp 85) 25 rfl w.heap.size 5 i0 (.int .u8 0) 1 1 Try.underlying25 hi hz0 hz1 hz2 rfl (by decide) _ _ _ rfl (hown2.alloc _) ⟨wr.heap.size, 0, none⟩ 1 1 [.int .u8 92] rfl rfl (one_new _ _ _) (one_cell _ _) ?c3 ?c4 ?c5 ?_))
                        case c3 => unfold maxLen; omega
                        case c4 => omega
                        case c5 => simp; omega
                        intro v' w2 hown' hgrow _
                        have HO : Hid _ := snoc_cells _ (92 : UInt8) hown'
                        have hb3 : Below w.heap.size w w2 := (hb2.alloc (by omega) _).grown hgrow (by simp; omega) (fun k hk => (hown2.lt k hk).1)
                        clear hown' hgrow hown2
                        go_wp2
                        go_roundw
                        case rel => exact ⟨t + 1, ac ++ [92], by omega, by go_num, HO.out, hb3, snoc_rep HA.out, by simp; omega⟩
                        case measure => simp [intOf]; omega
                      · have HA' : Hid (ac = acc ++ List.replicate (n / 2) 92) := by rw [show n / 2 = t by omega]; exact HA
                        clear HA
                        go_wp2
                        go_roundw
                        case rel => exact ⟨k + n, ac, by omega, rfl, by go_num, hown2, hb2, (by rw [HA'.out]; exact run_ok _ k n acc HR.out HE.out HI.out HNB.out : unf s.data.toList = (unf (s.data.toList.drop (k + n))).map (ac ++ ·)), by omega⟩
                        case measure => simp [intOf]; omega
                · have t44' : ((s[k + n].toNat : Int) != 44) = false := by simpa using t44
                  clear t44
                  have HNB : Hid (¬ (n % 2 = 1 ∧ bad (s.data.toList.drop (k + n)) = true)) := fun h => by
                    have h2 := h.2
                    rw [HT.out, ne_byte s[k + n] 44 false t44'] at h2
                    simp at h2
                  go_wp2
                  rw [show ((k : Int) + (n : Int) - (k : Int)) = (n : Int) from by omega]
                  obtain ⟨wo, rfl⟩ : ∃ wo : World, wo = wr := ⟨_, rfl⟩
                  go_loopw [5, 10] (fun v h wr => ∃ (t : Nat) (ac : List UInt8), t ≤ n / 2 ∧ h = .int .i64 t ∧ wr.ownsRow w.heap.size 5 1 v ac.length (Lib.byteCells ac) ∧ Below w.heap.size w wr ∧ Hid (ac = acc ++ List.replicate t 92) ∧ ac.length ≤ acc.length + t)
                    (fun _ h _ => n / 2 - (intOf h).toNat)
                  case atStart => exact ⟨0, acc, Nat.zero_le _, rfl, hownr, hbr, (by simp : acc = acc ++ List.replicate 0 92), Nat.le_refl _⟩
                  case round =>
                    obtain ⟨t, ac, ht, rfl, hown2, hb2, HA, hal2⟩ := hrel
                    have hbw2 := hb2.size
                    clear hownr hbr
                    by_cases htl : t < n / 2
                    · go_wp2_with (first
                        | (at_builtin; refine wpList_append_own _ rfl (.tmp 84) (.tmp 85) 25 rfl w.heap.size 5 i0 (.int .u8 0) 1 1 Try.underlying25 hi hz0 hz1 hz2 rfl (by decide) _ _ _ rfl (hown2.alloc _) ⟨wr.heap.size, 0, none⟩ 1 1 [.int .u8 92] rfl rfl (one_new _ _ _) (one_cell _ _) ?c3 ?c4 ?c5 ?_))
                      case c3 => unfold maxLen; omega
                      case c4 => omega
                      case c5 => simp; omega
                      intro v' w2 hown' hgrow _
                      have HO : Hid _ := snoc_cells _ (92 : UInt8) hown'
                      have hb3 : Below w.heap.size w w2 := (hb2.alloc (by omega) _).grown hgrow (by simp; omega) (fun k hk => (hown2.lt k hk).1)
                      clear hown' hgrow hown2
                      go_wp2
                      go_roundw
                      case rel => exact ⟨t + 1, ac ++ [92], by omega, by go_num, HO.out, hb3, snoc_rep HA.out, by simp; omega⟩
                      case measure => simp [intOf]; omega
                    · have HA' : Hid (ac = acc ++ List.replicate (n / 2) 92) := by rw [show n / 2 = t by omega]; exact HA
                      clear HA
                      go_wp2
                      go_roundw
                      case rel => exact ⟨k + n, ac, by omega, rfl, by go_num, hown2, hb2, (by rw [HA'.out]; exact run_ok _ k n acc HR.out HE.out HI.out HNB.out : unf s.data.toList = (unf (s.data.toList.drop (k + n))).map (ac ++ ·)), by omega⟩
                      case measure => simp [intOf]; omega
              · have HNB : Hid (¬ (n % 2 = 1 ∧ bad (s.data.toList.drop (k + n)) = true)) := fun h => hodd h.1
                go_wp2
                rw [show ((k : Int) + (n : Int) - (k : Int)) = (n : Int) from by omega]
                obtain ⟨wo, rfl⟩ : ∃ wo : World, wo = wr := ⟨_, rfl⟩
                go_loopw [5, 10] (fun v h wr => ∃ (t : Nat) (ac : List UInt8), t ≤ n / 2 ∧ h = .int .i64 t ∧ wr.ownsRow w.heap.size 5 1 v ac.length (Lib.byteCells ac) ∧ Below w.heap.size w wr ∧ Hid (ac = acc ++ List.replicate t 92) ∧ ac.length ≤ acc.length + t)
                  (fun _ h _ => n / 2 - (intOf h).toNat)
                case atStart => exact ⟨0, acc, Nat.zero_le _, rfl, hownr, hbr, (by simp : acc = acc ++ List.replicate 0 92), Nat.le_refl _⟩
                case round =>
                  obtain ⟨t, ac, ht, rfl, hown2, hb2, HA, hal2⟩ := hrel
                  have hbw2 := hb2.size
                  clear hownr hbr
                  by_cases htl : t < n / 2
                  · go_wp2_with (first
                      | (at_builtin; refine wpList_append_own _ rfl (.tmp 84) (.tmp 85) 25 rfl w.heap.size 5 i0 (.int .u8 0) 1 1 Try.underlying25 hi hz0 hz1 hz2 rfl (by decide) _ _ _ rfl (hown2.alloc _) ⟨wr.heap.size, 0, none⟩ 1 1 [.int .u8 92] rfl rfl (one_new _ _ _) (one_cell _ _) ?c3 ?c4 ?c5 ?_))
                    case c3 => unfold maxLen; omega
                    case c4 => omega
                    case c5 => simp; omega
                    intro v' w2 hown' hgrow _
                    have HO : Hid _ := snoc_cells _ (92 : UInt8) hown'
                    have hb3 : Below w.heap.size w w2 := (hb2.alloc (by omega) _).grown hgrow (by simp; omega) (fun k hk => (hown2.lt k hk).1)
                    clear hown' hgrow hown2
                    go_wp2
                    go_roundw
                    case rel => exact ⟨t + 1, ac ++ [92], by omega, by go_num, HO.out, hb3, snoc_rep HA.out, by simp; omega⟩
                    case measure => simp [intOf]; omega
                  · have HA' : Hid (ac = acc ++ List.replicate (n / 2) 92) := by rw [show n / 2 = t by omega]; exact HA
                    clear HA
                    go_wp2
                    go_roundw
                    case rel => exact ⟨k + n, ac, by omega, rfl, by go_num, hown2, hb2, (by rw [HA'.out]; exact run_ok _ k n acc HR.out HE.out HI.out HNB.out : unf s.data.toList = (unf (s.data.toList.drop (k + n))).map (ac ++ ·)), by omega⟩
                    case measure => simp [intOf]; omega
          · have HE : Hid (∀ b, s.data.toList[k + n]? = some b → b ≠ 92) := fun b hbb => by
              rw [List.getElem?_eq_none (by simp; omega)] at hbb; cases hbb
            have hn1 : 1 ≤ n := by omega
            have hjl : ((k : Int) + (n : Int) == (s.size : Int)) = true := by simp only [beq_iff_eq]; omega
            by_cases hodd : n % 2 = 1
            · have HBD : Hid (bad (s.data.toList.drop (k + n)) = true) := bad_end _ _ (by simp; omega)
              go_wp2
              go_ret
              exact ⟨rfl, hbr⟩
            · have HNB : Hid (¬ (n % 2 = 1 ∧ bad (s.data.toList.drop (k + n)) = true)) := fun h => hodd h.1
              go_wp2
              rw [show ((k : Int) + (n : Int) - (k : Int)) = (n : Int) from by omega]
              obtain ⟨wo, rfl⟩ : ∃ wo : World, wo = wr := ⟨_, rfl⟩
              go_loopw [5, 10] (fun v h wr => ∃ (t : Nat) (ac : List UInt8), t ≤ n / 2 ∧ h = .int .i64 t ∧ wr.ownsRow w.heap.size 5 1 v ac.length (Lib.byteCells ac) ∧ Below w.heap.size w wr ∧ Hid (ac = acc ++ List.replicate t 92) ∧ ac.length ≤ acc.length + t)
                (fun _ h _ => n / 2 - (intOf h).toNat)
              case atStart => exact ⟨0, acc, Nat.zero_le _, rfl, hownr, hbr, (by simp : acc = acc ++ List.replicate 0 92), Nat.le_refl _⟩
              case round =>
                obtain ⟨t, ac, ht, rfl, hown2, hb2, HA, hal2⟩ := hrel
                have hbw2 := hb2.size
                clear hownr hbr
                by_cases htl : t < n / 2
                · go_wp2_with (first
                    | (at_builtin; refine wpList_append_own _ rfl (.tmp 84) (.tmp 85) 25 rfl w.heap.size 5 i0 (.int .u8 0) 1 1 Try.underlying25 hi hz0 hz1 hz2 rfl (by decide) _ _ _ rfl (hown2.alloc _) ⟨wr.heap.size, 0, none⟩ 1 1 [.int .u8 92] rfl rfl (one_new _ _ _) (one_cell _ _) ?c3 ?c4 ?c5 ?_))
                  case c3 => unfold maxLen; omega
                  case c4 => omega
                  case c5 => simp; omega
                  intro v' w2 hown' hgrow _
                  have HO : Hid _ := snoc_cells _ (92 : UInt8) hown'
                  have hb3 : Below w.heap.size w w2 := (hb2.alloc (by omega) _).grown hgrow (by simp; omega) (fun k hk => (hown2.lt k hk).1)
                  clear hown' hgrow hown2
                  go_wp2
                  go_roundw
                  case rel => exact ⟨t + 1, ac ++ [92], by omega, by go_num, HO.out, hb3, snoc_rep HA.out, by simp; omega⟩
                  case measure => simp [intOf]; omega
                · have HA' : Hid (ac = acc ++ List.replicate (n / 2) 92) := by rw [show n / 2 = t by omega]; exact HA
                  clear HA
                  go_wp2
                  go_roundw
                  case rel => exact ⟨k + n, ac, by omega, rfl, by go_num, hown2, hb2, (by rw [HA'.out]; exact run_ok _ k n acc HR.out HE.out HI.out HNB.out : unf s.data.toList = (unf (s.data.toList.drop (k + n))).map (ac ++ ·)), by omega⟩
                  case measure => simp [intOf]; omega
    · have e := HI.out
      rw [List.drop_of_length_le (by simp; omega), HU.out] at e
      simp [unf] at e

set_option maxRecDepth 100000 in
set_option maxHeartbeats 4000000 in
theorem runs_some (s : ByteArray) (w : World) (hs : s.size ≤ 1048576) (l : List UInt8) (hu : unf s.data.toList = some l) :
    Calls Try.prog 3 #[.string s] w fun e w' => e = .returned (.bool true) ∧ Below w.heap.size w w' := by
  obtain ⟨i0, hi, hz0, hz1, hz2⟩ := info_parts info5
  have HU : Hid (unf s.data.toList = some l) := hu
  clear hu
  go_enter Try.func3, Try.ntmps3
  go_wp2_with (go_at_call 6; refine (bytes3_fit s _ hs).mono ?_; rintro e w' ⟨rfl, rfl⟩)
  refine (zun_some s w hs l HU.out).mono ?_
  rintro e w0 ⟨rfl, hb0⟩
  have hs0 := hb0.size
  go_wp2_with (at_make; refine wpList_make_own _ rfl _ _ 25 rfl w.heap.size 5 i0 (.int .u8 0) 1 Try.underlying25 hi hz0 hz1 _ _ _ s.size rfl rfl rfl ?b2 ?b3 ?b4 ?_)
  case b2 => rw [hz2]; omega
  case b3 => unfold maxLen; omega
  case b4 => exact hs0
  intro w1 hown hgrow
  have hbel : Below w.heap.size w w1 := hb0.grown hgrow hs0 (by simp)
  clear hgrow hb0
  go_wp2
  go_loopw [5, 6, 7] (fun v ok i wr => ∃ (k : Nat) (acc : List UInt8), k ≤ s.size ∧ ok = .bool true ∧ i = .int .i64 k ∧ wr.ownsRow w.heap.size 5 1 v acc.length (Lib.byteCells acc) ∧ Below w.heap.size w wr ∧
      Hid (unf s.data.toList = (unf (s.data.toList.drop k)).map (acc ++ ·)) ∧ acc.length ≤ k)
    (fun _ _ i _ => s.size - (intOf i).toNat)
  case atStart => exact ⟨0, [], Nat.zero_le _, rfl, rfl, hown, hbel, map_nil _, Nat.le_refl _⟩
  case round =>
    obtain ⟨k, acc, hk, rfl, rfl, hownr, hbr, HI, hal⟩ := hrel
    clear hown hbel
    have hbw := hbr.size
    by_cases hlt : k < s.size
    · by_cases hb : ((s[k].toNat : Int) != 92) = true
      · have HB : Hid (s[k] ≠ 92) := byte_ne hb
        go_wp2_with (first
          | (at_builtin; refine wpList_append_own _ rfl (.tmp 33) (.tmp 37) 25 rfl w.heap.size 5 i0 (.int .u8 0) 1 1 Try.underlying25 hi hz0 hz1 hz2 rfl (by decide) _ _ _ rfl (hownr.alloc _) ⟨wr.heap.size, 0, none⟩ 1 1 [.int .u8 s[k].toNat] rfl rfl (one_new _ _ _) (one_cell _ _) ?c3 ?c4 ?c5 ?_))
        case c3 => unfold maxLen; omega
        case c4 => omega
        case c5 => simp; omega
        intro v' w2 hown' hgrow _
        have HO : Hid _ := snoc_cells _ s[k] hown'
        have hb2 : Below w.heap.size w w2 := (hbr.alloc (by omega) _).grown hgrow (by simp; omega) (fun k hk => (hownr.lt k hk).1)
        clear hown' hgrow hownr
        go_wp2
        go_roundw
        case rel => exact ⟨k + 1, acc ++ [s[k]], by omega, rfl, by go_num, HO.out, hb2, (by rw [HI.out, drop_cons s k hlt, unf_plain _ _ HB.out, map_snoc] : unf s.data.toList = (unf (s.data.toList.drop (k + 1))).map ((acc ++ [s[k]]) ++ ·)), by simp; omega⟩
        case measure => simp [intOf]; omega
      · have hb' : ((s[k].toNat : Int) != 92) = false := by simpa using hb
        clear hb
        have HB : Hid (s[k] = 92) := byte_eq hb'
        go_wp2
        go_loop [8] (fun j => ∃ n : Nat, k + n ≤ s.size ∧ j = .int .i64 (k + n : Nat) ∧ Hid (∀ t, k ≤ t → t < k + n → s.data.toList[t]? = some 92)) (fun j => s.size - (intOf j).toNat)
        case atStart => exact ⟨0, by omega, by go_num, fun t h1 h2 => by omega⟩
        case round =>
          obtain ⟨n, hn, rfl, HR⟩ := hrel
          by_cases hm : k + n < s.size
          · by_cases hc : ((s[k + n].toNat : Int) == 92) = true
            · have HC : Hid (s[k + n] = 92) := byte_eq' hc
              go_wp2
              go_round
              case rel =>
                refine ⟨n + 1, by omega, by go_num, fun t h1 h2 => ?_⟩
                by_cases e : t = k + n
                · subst e; rw [at_data s _ hm, HC.out]
                · exact HR.out t h1 (by omega)
              case measure => simp [intOf]; omega
            · have hc' : ((s[k + n].toNat : Int) == 92) = false := by simpa using hc
              clear hc
              have HE : Hid (∀ b, s.data.toList[k + n]? = some b → b ≠ 92) := fun b hbb => by
                rw [at_data s _ hm] at hbb; exact Option.some.inj hbb ▸ byte_ne' hc'
              have hn1 : 1 ≤ n := by
                rcases Nat.eq_zero_or_pos n with h0 | h0
                · subst h0; exact absurd HB.out (HE.out s[k] (at_data s _ hlt))
                · exact h0
              have HT : Hid (bad (s.data.toList.drop (k + n)) = ((s[k + n] != 44) && (s[k + n] != 61))) := bad_at _ _ _ (at_data s _ hm)
              have hjl : ((k : Int) + (n : Int) == (s.size : Int)) = false := by simp only [beq_eq_false_iff_ne]; omega
              by_cases hodd : n % 2 = 1
              · by_cases t44 : ((s[k + n].toNat : Int) != 44) = true
                · by_cases t61 : ((s[k + n].toNat : Int) != 61) = true
                  · have HBD : Hid (bad (s.data.toList.drop (k + n)) = true) := by
                      show bad (s.data.toList.drop (k + n)) = true
                      rw [HT.out, ne_byte s[k + n] 44 true t44, ne_byte s[k + n] 61 true t61]; rfl
                    exact absurd (run_bad _ k n acc HR.out HE.out HI.out ⟨hodd, HBD.out⟩) (by rw [HU.out]; simp)
                  · have t61' : ((s[k + n].toNat : Int) != 61) = false := by simpa using t61
                    clear t61
                    have HNB : Hid (¬ (n % 2 = 1 ∧ bad (s.data.toList.drop (k + n)) = true)) := fun h => by
                      have h2 := h.2
                      rw [HT.out, ne_byte s[k + n] 61 false t61'] at h2
                      simp at h2
                    go_wp2
                    rw [show ((k : Int) + (n : Int) - (k : Int)) = (n : Int) from by omega]
                    obtain ⟨wo, rfl⟩ : ∃ wo : World, wo = wr := ⟨_, rfl⟩
                    go_loopw [5, 10] (fun v h wr => ∃ (t : Nat) (ac : List UInt8), t ≤ n / 2 ∧ h = .int .i64 t ∧ wr.ownsRow w.heap.size 5 1 v ac.length (Lib.byteCells ac) ∧ Below w.heap.size w wr ∧ Hid (ac = acc ++ List.replicate t 92) ∧ ac.length ≤ acc.length + t)
                      (fun _ h _ => n / 2 - (intOf h).toNat)
                    case atStart => exact ⟨0, acc, Nat.zero_le _, rfl, hownr, hbr, (by simp : acc = acc ++ List.replicate 0 92), Nat.le_refl _⟩
                    case round =>
                      obtain ⟨t, ac, ht, rfl, hown2, hb2, HA, hal2⟩ := hrel
                      have hbw2 := hb2.size
                      clear hownr hbr
                      by_cases htl : t < n / 2
                      · go_wp2_with (first
                          | (at_builtin; refine wpList_append_own _ rfl (.tmp 84) (.tmp 85) 25 rfl w.heap.size 5 i0 (.int .u8 0) 1 1 Try.underlying25 hi hz0 hz1 hz2 rfl (by decide) _ _ _ rfl (hown2.alloc _) ⟨wr.heap.size, 0, none⟩ 1 1 [.int .u8 92] rfl rfl (one_new _ _ _) (one_cell _ _) ?c3 ?c4 ?c5 ?_))
                        case c3 => unfold maxLen; omega
                        case c4 => omega
                        case c5 => simp; omega
                        intro v' w2 hown' hgrow _
                        have HO : Hid _ := snoc_cells _ (92 : UInt8) hown'
                        have hb3 : Below w.heap.size w w2 := (hb2.alloc (by omega) _).grown hgrow (by simp; omega) (fun k hk => (hown2.lt k hk).1)
                        clear hown' hgrow hown2
                        go_wp2
                        go_roundw
                        case rel => exact ⟨t + 1, ac ++ [92], by omega, by go_num, HO.out, hb3, snoc_rep HA.out, by simp; omega⟩
                        case measure => simp [intOf]; omega
                      · have HA' : Hid (ac = acc ++ List.replicate (n / 2) 92) := by rw [show n / 2 = t by omega]; exact HA
                        clear HA
                        go_wp2
                        go_roundw
                        case rel => exact ⟨k + n, ac, by omega, rfl, by go_num, hown2, hb2, (by rw [HA'.out]; exact run_ok _ k n acc HR.out HE.out HI.out HNB.out : unf s.data.toList = (unf (s.data.toList.drop (k + n))).map (ac ++ ·)), by omega⟩
                        case measure => simp [intOf]; omega
                · have t44' : ((s[k + n].toNat : Int) != 44) = false := by simpa using t44
                  clear t44
                  have HNB : Hid (¬ (n % 2 = 1 ∧ bad (s.data.toList.drop (k + n)) = true)) := fun h => by
                    have h2 := h.2
                    rw [HT.out, ne_byte s[k + n] 44 false t44'] at h2
                    simp at h2
                  go_wp2
                  rw [show ((k : Int) + (n : Int) - (k : Int)) = (n : Int) from by omega]
                  obtain ⟨wo, rfl⟩ : ∃ wo : World, wo = wr := ⟨_, rfl⟩
                  go_loopw [5, 10] (fun v h wr => ∃ (t : Nat) (ac : List UInt8), t ≤ n / 2 ∧ h = .int .i64 t ∧ wr.ownsRow w.heap.size 5 1 v ac.length (Lib.byteCells ac) ∧ Below w.heap.size w wr ∧ Hid (ac = acc ++ List.replicate t 92) ∧ ac.length ≤ acc.length + t)
                    (fun _ h _ => n / 2 - (intOf h).toNat)
                  case atStart => exact ⟨0, acc, Nat.zero_le _, rfl, hownr, hbr, (by simp : acc = acc ++ List.replicate 0 92), Nat.le_refl _⟩
                  case round =>
                    obtain ⟨t, ac, ht, rfl, hown2, hb2, HA, hal2⟩ := hrel
                    have hbw2 := hb2.size
                    clear hownr hbr
                    by_cases htl : t < n / 2
                    · go_wp2_with (first
                        | (at_builtin; refine wpList_append_own _ rfl (.tmp 84) (.tmp 85) 25 rfl w.heap.size 5 i0 (.int .u8 0) 1 1 Try.underlying25 hi hz0 hz1 hz2 rfl (by decide) _ _ _ rfl (hown2.alloc _) ⟨wr.heap.size, 0, none⟩ 1 1 [.int .u8 92] rfl rfl (one_new _ _ _) (one_cell _ _) ?c3 ?c4 ?c5 ?_))
                      case c3 => unfold maxLen; omega
                      case c4 => omega
                      case c5 => simp; omega
                      intro v' w2 hown' hgrow _
                      have HO : Hid _ := snoc_cells _ (92 : UInt8) hown'
                      have hb3 : Below w.heap.size w w2 := (hb2.alloc (by omega) _).grown hgrow (by simp; omega) (fun k hk => (hown2.lt k hk).1)
                      clear hown' hgrow hown2
                      go_wp2
                      go_roundw
                      case rel => exact ⟨t + 1, ac ++ [92], by omega, by go_num, HO.out, hb3, snoc_rep HA.out, by simp; omega⟩
                      case measure => simp [intOf]; omega
                    · have HA' : Hid (ac = acc ++ List.replicate (n / 2) 92) := by rw [show n / 2 = t by omega]; exact HA
                      clear HA
                      go_wp2
                      go_roundw
                      case rel => exact ⟨k + n, ac, by omega, rfl, by go_num, hown2, hb2, (by rw [HA'.out]; exact run_ok _ k n acc HR.out HE.out HI.out HNB.out : unf s.data.toList = (unf (s.data.toList.drop (k + n))).map (ac ++ ·)), by omega⟩
                      case measure => simp [intOf]; omega
              · have HNB : Hid (¬ (n % 2 = 1 ∧ bad (s.data.toList.drop (k + n)) = true)) := fun h => hodd h.1
                go_wp2
                rw [show ((k : Int) + (n : Int) - (k : Int)) = (n : Int) from by omega]
                obtain ⟨wo, rfl⟩ : ∃ wo : World, wo = wr := ⟨_, rfl⟩
                go_loopw [5, 10] (fun v h wr => ∃ (t : Nat) (ac : List UInt8), t ≤ n / 2 ∧ h = .int .i64 t ∧ wr.ownsRow w.heap.size 5 1 v ac.length (Lib.byteCells ac) ∧ Below w.heap.size w wr ∧ Hid (ac = acc ++ List.replicate t 92) ∧ ac.length ≤ acc.length + t)
                  (fun _ h _ => n / 2 - (intOf h).toNat)
                case atStart => exact ⟨0, acc, Nat.zero_le _, rfl, hownr, hbr, (by simp : acc = acc ++ List.replicate 0 92), Nat.le_refl _⟩
                case round =>
                  obtain ⟨t, ac, ht, rfl, hown2, hb2, HA, hal2⟩ := hrel
                  have hbw2 := hb2.size
                  clear hownr hbr
                  by_cases htl : t < n / 2
                  · go_wp2_with (first
                      | (at_builtin; refine wpList_append_own _ rfl (.tmp 84) (.tmp 85) 25 rfl w.heap.size 5 i0 (.int .u8 0) 1 1 Try.underlying25 hi hz0 hz1 hz2 rfl (by decide) _ _ _ rfl (hown2.alloc _) ⟨wr.heap.size, 0, none⟩ 1 1 [.int .u8 92] rfl rfl (one_new _ _ _) (one_cell _ _) ?c3 ?c4 ?c5 ?_))
                    case c3 => unfold maxLen; omega
                    case c4 => omega
                    case c5 => simp; omega
                    intro v' w2 hown' hgrow _
                    have HO : Hid _ := snoc_cells _ (92 : UInt8) hown'
                    have hb3 : Below w.heap.size w w2 := (hb2.alloc (by omega) _).grown hgrow (by simp; omega) (fun k hk => (hown2.lt k hk).1)
                    clear hown' hgrow hown2
                    go_wp2
                    go_roundw
                    case rel => exact ⟨t + 1, ac ++ [92], by omega, by go_num, HO.out, hb3, snoc_rep HA.out, by simp; omega⟩
                    case measure => simp [intOf]; omega
                  · have HA' : Hid (ac = acc ++ List.replicate (n / 2) 92) := by rw [show n / 2 = t by omega]; exact HA
                    clear HA
                    go_wp2
                    go_roundw
                    case rel => exact ⟨k + n, ac, by omega, rfl, by go_num, hown2, hb2, (by rw [HA'.out]; exact run_ok _ k n acc HR.out HE.out HI.out HNB.out : unf s.data.toList = (unf (s.data.toList.drop (k + n))).map (ac ++ ·)), by omega⟩
                    case measure => simp [intOf]; omega
          · have HE : Hid (∀ b, s.data.toList[k + n]? = some b → b ≠ 92) := fun b hbb => by
              rw [List.getElem?_eq_none (by simp; omega)] at hbb; cases hbb
            have hn1 : 1 ≤ n := by omega
            have hjl : ((k : Int) + (n : Int) == (s.size : Int)) = true := by simp only [beq_iff_eq]; omega
            by_cases hodd : n % 2 = 1
            · have HBD : Hid (bad (s.data.toList.drop (k + n)) = true) := bad_end _ _ (by simp; omega)
              exact absurd (run_bad _ k n acc HR.out HE.out HI.out ⟨hodd, HBD.out⟩) (by rw [HU.out]; simp)
            · have HNB : Hid (¬ (n % 2 = 1 ∧ bad (s.data.toList.drop (k + n)) = true)) := fun h => hodd h.1
              go_wp2
              rw [show ((k : Int) + (n : Int) - (k : Int)) = (n : Int) from by omega]
              obtain ⟨wo, rfl⟩ : ∃ wo : World, wo = wr := ⟨_, rfl⟩
              go_loopw [5, 10] (fun v h wr => ∃ (t : Nat) (ac : List UInt8), t ≤ n / 2 ∧ h = .int .i64 t ∧ wr.ownsRow w.heap.size 5 1 v ac.length (Lib.byteCells ac) ∧ Below w.heap.size w wr ∧ Hid (ac = acc ++ List.replicate t 92) ∧ ac.length ≤ acc.length + t)
                (fun _ h _ => n / 2 - (intOf h).toNat)
              case atStart => exact ⟨0, acc, Nat.zero_le _, rfl, hownr, hbr, (by simp : acc = acc ++ List.replicate 0 92), Nat.le_refl _⟩
              case round =>
                obtain ⟨t, ac, ht, rfl, hown2, hb2, HA, hal2⟩ := hrel
                have hbw2 := hb2.size
                clear hownr hbr
                by_cases htl : t < n / 2
                · go_wp2_with (first
                    | (at_builtin; refine wpList_append_own _ rfl (.tmp 84) (.tmp 85) 25 rfl w.heap.size 5 i0 (.int .u8 0) 1 1 Try.underlying25 hi hz0 hz1 hz2 rfl (by decide) _ _ _ rfl (hown2.alloc _) ⟨wr.heap.size, 0, none⟩ 1 1 [.int .u8 92] rfl rfl (one_new _ _ _) (one_cell _ _) ?c3 ?c4 ?c5 ?_))
                  case c3 => unfold maxLen; omega
                  case c4 => omega
                  case c5 => simp; omega
                  intro v' w2 hown' hgrow _
                  have HO : Hid _ := snoc_cells _ (92 : UInt8) hown'
                  have hb3 : Below w.heap.size w w2 := (hb2.alloc (by omega) _).grown hgrow (by simp; omega) (fun k hk => (hown2.lt k hk).1)
                  clear hown' hgrow hown2
                  go_wp2
                  go_roundw
                  case rel => exact ⟨t + 1, ac ++ [92], by omega, by go_num, HO.out, hb3, snoc_rep HA.out, by simp; omega⟩
                  case measure => simp [intOf]; omega
                · have HA' : Hid (ac = acc ++ List.replicate (n / 2) 92) := by rw [show n / 2 = t by omega]; exact HA
                  clear HA
                  go_wp2
                  go_roundw
                  case rel => exact ⟨k + n, ac, by omega, rfl, by go_num, hown2, hb2, (by rw [HA'.out]; exact run_ok _ k n acc HR.out HE.out HI.out HNB.out : unf s.data.toList = (unf (s.data.toList.drop (k + n))).map (ac ++ ·)), by omega⟩
                  case measure => simp [intOf]; omega
    · have hconv := conv_own hownr
      have HL : Hid (acc = l) := by
        have e := HI.out
        rw [List.drop_of_length_le (by simp; omega), HU.out] at e
        simp [unf] at e
        exact e.symm
      have hL := HL.out
      subst hL
      go_wp2
      go_ret
      exact ⟨rfl, hbr⟩

set_option maxHeartbeats 400000 in
theorem runs_long (s : ByteArray) (w0 : s.size ≤ maxLen) (w : World) (h : ¬ s.size ≤ 1048576) :
    Calls Try.prog 3 #[.string s] w fun e w' => e = .returned (.bool true) ∧ Below w.heap.size w w' := by
  go_enter Try.func3, Try.ntmps3
  go_wp2_with (go_at_call 6; refine (bytes3_not s _ w0 h).mono ?_; rintro e w' ⟨rfl, rfl⟩)
  go_ret
  exact ⟨rfl, Below.refl _ _⟩

theorem runs_any (s : ByteArray) (w0 : s.size ≤ maxLen) (w : World) :
    Calls Try.prog 3 #[.string s] w fun e w' => e = .returned (.bool true) ∧ Below w.heap.size w w' := by
  by_cases h : s.size ≤ 1048576
  · cases hu : unf s.data.toList with
    | none => exact runs_none s w h hu
    | some l => exact runs_some s w h l hu
  · exact runs_long s w0 w h

end Go.Proofs.Qxb6600459a
