/-
  THE WALKS of stripSeparators and of FnIsDomainIDAfterStrippingSeparators.
-/
import Derived.Test.Qxb6614456aDom
import Derived.Laws.IdiomStrings
import Derived.Laws.BytesArg
import Derived.Shelf.Strings.Builder1
set_option linter.unusedSimpArgs false
set_option linter.unusedVariables false
namespace Go.Proofs.Qxb6614456a
open Go.RowKit

theorem info5 : (Try.prog.info? 5).map (fun i => (i.zero, i.size, i.bytes)) = some (some (.int .u8 0), 1, 1) := by kernel_rfl

/-- 'string(v)' of a row that the call owns. -/
theorem conv_own {B : Nat} {v : Value} {l : List UInt8} {w : World} (h : w.ownsRow B 5 1 v l.length (Lib.byteCells l)) :
    (convert 25 9 v).run Try.prog w = .ok (.string ⟨l.toArray⟩) w := by
  rcases h.2 with ⟨rfl, h0⟩ | ⟨g, cap, cur, rfl, _, hg, _⟩
  · have : l = [] := List.eq_nil_of_length_eq_zero h0
    subst this
    exact run_convert_bytes_nil w 25 5 Try.underlying25 Try.underlying5 0 0 9 Try.underlying9
  · refine run_convert_bytes_back w 25 9 5 ⟨g, 0, none⟩ cap l Try.underlying25 Try.underlying5 Try.underlying9 ?_
    intro j hj
    exact h.cells (g := g) rfl j _ (by simp [Lib.byteCells, hj])

theorem snoc_cells (acc : List UInt8) (c : UInt8) {w : World} {B : Nat} {v : Value} (h : w.ownsRow B 5 1 v (acc.length + 1) (Lib.byteCells acc ++ [.int .u8 c.toNat])) :
    w.ownsRow B 5 1 v (acc ++ [c]).length (Lib.byteCells (acc ++ [c])) := by
  rw [Lib.byteCells_append, List.length_append]; exact h

theorem one_new (w : World) (x : Value) (t : TypeId) : ∀ j u, [x][j]? = some u → (w.alloc (.cells #[x] t)).cell? ((⟨w.heap.size, 0, none⟩ : Addr).add j) = some u := by
  intro j u hj
  match j, hj with
  | 0, hj => simp at hj; subst hj; simp [Addr.add]

theorem one_cell (k : IntKind) (z : Int) : ∀ u ∈ [Value.int k z], u.oneCell' = true := by
  intro u hu; simp at hu; subst hu; rfl

/-- What is left without separators. -/
def keepL (l : List UInt8) : List UInt8 := l.filter fun c => !sepB c

theorem keep_snoc (l : List UInt8) (c : UInt8) : keepL (l ++ [c]) = if sepB c then keepL l else keepL l ++ [c] := by
  unfold keepL
  rw [List.filter_append]
  cases h : sepB c <;> simp [h]

theorem keep_le (l : List UInt8) : (keepL l).length ≤ l.length := List.length_filter_le _ _

set_option maxHeartbeats 1000000 in
theorem strip_any (s : ByteArray) (w : World) (hs : s.size ≤ 1048576) (F : List UInt8) (hF : keepL s.data.toList = F) :
    Calls Try.prog 11 #[.string s] w fun e w' => e = .returned (.string ⟨F.toArray⟩) ∧ Below w.heap.size w w' := by
  have HF : Hid (keepL s.data.toList = F) := hF
  clear hF
  obtain ⟨i0, hi, hz0, hz1, hz2⟩ := info_parts info5
  go_enter Try.func11, Try.ntmps11
  go_wp2_with (at_make; refine wpList_make_own _ rfl _ _ 25 rfl w.heap.size 5 i0 (.int .u8 0) 1 Try.underlying25 hi hz0 hz1 _ _ _ s.size rfl rfl rfl ?b2 ?b3 ?b4 ?_)
  case b2 => rw [hz2]; omega
  case b3 => unfold maxLen; omega
  case b4 => exact Nat.le_refl _
  intro w1 hown hgrow
  have hbel : Below w.heap.size w w1 := (Below.refl _ _).grown hgrow (Nat.le_refl _) (by simp)
  clear hgrow
  go_wp2
  go_loopw [3, 4] (fun v i wr => ∃ (k : Nat) (acc : List UInt8), k ≤ s.size ∧ i = .int .i64 k ∧ wr.ownsRow w.heap.size 5 1 v acc.length (Lib.byteCells acc) ∧ Below w.heap.size w wr ∧ Hid (acc = keepL (s.data.toList.take k)) ∧ acc.length ≤ k)
    (fun _ i _ => s.size - (intOf i).toNat)
  case atStart => exact ⟨0, [], Nat.zero_le _, rfl, hown, hbel, (rfl : [] = keepL (s.data.toList.take 0)), Nat.le_refl _⟩
  case round =>
    obtain ⟨k, acc, hk, rfl, hownr, hbr, HA, hal⟩ := hrel
    clear hown hbel
    have hbw := hbr.size
    by_cases hlt : k < s.size
    · have hts := take_snoc s k hlt
      have hks := keep_snoc (s.data.toList.take k) s[k]
      rw [← hts] at hks
      have HKS : Hid (keepL (s.data.toList.take (k + 1)) = if sepB s[k] then keepL (s.data.toList.take k) else keepL (s.data.toList.take k) ++ [s[k]]) := hks
      clear hts hks
      by_cases t1 : ((s[k].toNat : Int) != 58) = true
      · by_cases t2 : ((s[k].toNat : Int) != 47) = true
        · by_cases t3 : ((s[k].toNat : Int) != 42) = true
          · have HN : Hid (sepB s[k] = false) := sep_no (by simpa using t1) (by simpa using t2) (by simpa using t3)
            go_wp2_with (at_builtin; refine wpList_append_own _ rfl (.tmp 28) (.tmp 30) 25 rfl w.heap.size 5 i0 (.int .u8 0) 1 1 Try.underlying25 hi hz0 hz1 hz2 rfl (by decide) _ _ _ rfl (hownr.alloc _) ⟨wr.heap.size, 0, none⟩ 1 1 [.int .u8 s[k].toNat] rfl rfl (one_new _ _ _) (one_cell _ _) ?c3 ?c4 ?c5 ?_)
            case c3 => unfold maxLen; omega
            case c4 => omega
            case c5 => simp; omega
            intro v' w2 hown' hgrow _
            have HO : Hid _ := snoc_cells acc s[k] hown'
            have hb2 : Below w.heap.size w w2 := (hbr.alloc (by omega) _).grown hgrow (by simp; omega) (fun k hk => (hownr.lt k hk).1)
            clear hown' hgrow hownr
            go_wp2
            go_roundw
            case rel => exact ⟨k + 1, acc ++ [s[k]], by omega, by go_num, HO.out, hb2, (by rw [HKS.out, HN.out, HA.out]; rfl : acc ++ [s[k]] = keepL (s.data.toList.take (k + 1))), by simp; omega⟩
            case measure => simp [intOf]; omega
          · have t3' : ((s[k].toNat : Int) != 42) = false := by simpa using t3
            clear t3
            have HN : Hid (sepB s[k] = true) := sep_yes (.inr (.inr (by simpa using t3')))
            go_wp2
            go_roundw
            case rel => exact ⟨k + 1, acc, by omega, by go_num, hownr, hbr, (by rw [HKS.out, HN.out, HA.out]; rfl : acc = keepL (s.data.toList.take (k + 1))), by omega⟩
            case measure => simp [intOf]; omega
        · have t2' : ((s[k].toNat : Int) != 47) = false := by simpa using t2
          clear t2
          have HN : Hid (sepB s[k] = true) := sep_yes (.inr (.inl (by simpa using t2')))
          go_wp2
          go_roundw
          case rel => exact ⟨k + 1, acc, by omega, by go_num, hownr, hbr, (by rw [HKS.out, HN.out, HA.out]; rfl : acc = keepL (s.data.toList.take (k + 1))), by omega⟩
          case measure => simp [intOf]; omega
      · have t1' : ((s[k].toNat : Int) != 58) = false := by simpa using t1
        clear t1
        have HN : Hid (sepB s[k] = true) := sep_yes (.inl (by simpa using t1'))
        go_wp2
        go_roundw
        case rel => exact ⟨k + 1, acc, by omega, by go_num, hownr, hbr, (by rw [HKS.out, HN.out, HA.out]; rfl : acc = keepL (s.data.toList.take (k + 1))), by omega⟩
        case measure => simp [intOf]; omega
    · have hconv := conv_own hownr
      have HE : Hid (acc = F) := by
        show acc = F
        rw [HA.out, ← HF.out, List.take_of_length_le (by simp; omega)]
      go_wp2
      go_ret
      exact ⟨by rw [← HE.out]; rfl, hbr⟩

set_option maxHeartbeats 400000 in
theorem bytes1_fit (a : ByteArray) (w : World) (h : a.size ≤ 1048576) :
    Calls Try.prog 10 #[.string a] w fun e w' => e = .returned (.bool true) ∧ w = w' := by
  go_enter Try.func10, Try.ntmps10
  go_wp2
  go_ret
  exact ⟨rfl, rfl⟩

set_option maxHeartbeats 400000 in
theorem bytes1_not (a : ByteArray) (w : World) (ha : a.size ≤ maxLen) (h : ¬ a.size ≤ 1048576) :
    Calls Try.prog 10 #[.string a] w fun e w' => e = .returned (.bool false) ∧ w = w' := by
  unfold maxLen at ha
  go_enter Try.func10, Try.ntmps10
  go_wp2
  go_ret
  exact ⟨rfl, rfl⟩

end Go.Proofs.Qxb6614456a
