import Derived.Test.Qxb6613957aWalkA
set_option linter.unusedSimpArgs false
set_option linter.unusedVariables false
namespace Go.Proofs.Qxb6613957a
open Go.RowKit

/-- The clone's row behind k rounds. -/
def cl (zs : List Int) (k : Nat) : List Value := (zs.take k).map (Value.int .u8) ++ List.replicate (zs.length - k) (.int .u8 0)

theorem cl_len (zs : List Int) (k : Nat) (h : k ≤ zs.length) : (cl zs k).length = zs.length := by
  simp [cl]; omega

theorem cl_set (zs : List Int) (k : Nat) (h : k < zs.length) : (cl zs k).set k (.int .u8 (zs.getD k 0)) = cl zs (k + 1) := by
  apply List.ext_getElem?
  intro j
  unfold cl
  simp only [List.getElem?_set, List.getElem?_append, List.length_map, List.length_take, List.getElem?_map, List.getElem?_take, List.getElem?_replicate, List.length_append, List.length_replicate]
  have hm : min k zs.length = k := by omega
  have hm1 : min (k + 1) zs.length = k + 1 := by omega
  rw [hm, hm1]
  by_cases e : k = j
  · subst e
    rw [if_pos rfl, if_pos (by omega), if_pos (by omega), if_pos (by omega)]
    simp [List.getElem?_eq_getElem h]
  · rw [if_neg e]
    by_cases hj : j < k
    · rw [if_pos hj, if_pos (show j < k + 1 by omega)]
      rw [if_pos hj, if_pos (by omega)]
    · rw [if_neg hj, if_neg (show ¬ j < k + 1 by omega)]
      by_cases hj2 : j < zs.length
      · rw [if_pos (by omega), if_pos (by omega)]
      · rw [if_neg (by omega), if_neg (by omega)]

theorem cl_end (zs : List Int) : cl zs zs.length = zs.map (Value.int .u8) := by simp [cl]

set_option maxHeartbeats 400000 in
/-- zzCloneBytes at nil. -/
theorem clone_nil (n c : Nat) (w : World) :
    Calls Try.prog 17 #[.slice none n c] w fun e w' => e = .returned (.slice none 0 0) ∧ w' = w := by
  have hk := fun w => Lib.run_eql_slice_nil (P := Try.prog) w 27 5 none n c 0 0 Try.underlying27
  go_enter Try.func17, Try.ntmps17
  go_wp2
  go_ret
  exact ⟨rfl, rfl⟩

set_option maxHeartbeats 1000000 in
/-- zzCloneBytes of a slice with bytes in it. -/
theorem clone_some (b off len cap : Nat) (zs : List Int) (w : World) (hz : zs.length = len) (hlt : b < w.heap.size)
    (hc : ∀ i, i < len → w.cell? ⟨b, off + i, none⟩ = some (.int .u8 (zs.getD i 0))) (hl : len ≤ 1048576) :
    Calls Try.prog 17 #[.slice (some ⟨b, off, none⟩) len cap] w fun e w' => e = .returned (.slice (some ⟨w.heap.size, 0, none⟩) len len) ∧
      w'.ownsRow w.heap.size 5 1 (.slice (some ⟨w.heap.size, 0, none⟩) len len) len (zs.map (Value.int .u8)) ∧ Below w.heap.size w w' := by
  obtain ⟨i0, hi, hz0, hz1, hz2⟩ := info_parts info5
  have hk := fun w => Lib.run_eql_slice_nil (P := Try.prog) w 27 5 (some ⟨b, off, none⟩) len cap 0 0 Try.underlying27
  have HC : Hid (∀ i, i < len → w.cell? ⟨b, off + i, none⟩ = some (.int .u8 (zs.getD i 0))) := hc
  clear hc
  go_enter Try.func17, Try.ntmps17
  go_wp2_with (at_make; refine wpList_make_full _ rfl _ _ 27 rfl w.heap.size 5 i0 (.int .u8 0) 1 Try.underlying27 hi hz0 hz1 _ _ _ _ len rfl rfl rfl rfl ?b2 ?b3 ?b4 ?_)
  case b2 => rw [hz2]; omega
  case b3 => unfold maxLen; omega
  case b4 => exact Nat.le_refl _
  intro w1 hown hgrow
  have hbel : Below w.heap.size w w1 := (Below.refl _ _).grown hgrow (Nat.le_refl _) (by simp)
  have hown1 : w1.ownsRow w.heap.size 5 1 (.slice (some ⟨w.heap.size, 0, none⟩) len len) len (cl zs 0) := by
    have e : (madeCells #[Value.int .u8 0] len).toList = cl zs 0 := by
      rw [toList_madeCells_one]
      simp [cl, hz]
    rw [← e]; exact hown
  clear hown hgrow
  go_wp2
  go_loopw [4] (fun i wr => ∃ k : Nat, k ≤ len ∧ i = .int .i64 k ∧ wr.ownsRow w.heap.size 5 1 (.slice (some ⟨w.heap.size, 0, none⟩) len len) len (cl zs k) ∧ Below w.heap.size w wr)
    (fun i _ => len - (intOf i).toNat)
  case atStart => exact ⟨0, Nat.zero_le _, rfl, hown1, hbel⟩
  case round =>
    obtain ⟨k, hk2, rfl, hownr, hbr⟩ := hrel
    by_cases hlt2 : k < len
    · obtain ⟨x, hx⟩ : ∃ x, zs.getD k 0 = x := ⟨_, rfl⟩
      have hcx : wr.cell? ⟨b, off + k, none⟩ = some (.int .u8 x) := by rw [← hx]; exact (hbr.cell (by exact hlt)).trans (HC.out k hlt2)
      obtain ⟨u, hu⟩ : ∃ u, wr.cell? ⟨w.heap.size, k, none⟩ = some u := by
        rw [hownr.cellAt k (by omega)]
        exact ⟨_, List.getElem?_eq_getElem (by rw [cl_len _ _ (by omega)]; omega)⟩
      have hfz := hownr.frozenAt k
      have hst := hownr.stored k (.int .u8 (zs.getD k 0))
      rw [cl_set zs k (by omega), hx] at hst
      have HS : Hid _ := hst
      clear hst hownr hx
      go_wp2
      go_roundw
      case rel => exact ⟨k + 1, by omega, by go_num, HS.out.1, hbr.grown HS.out.2 (by have := hbr.size; omega) (by simp)⟩
      case measure => simp [intOf]; omega
    · have HE : Hid (zs.map (Value.int .u8) = cl zs k) := by
        show zs.map (Value.int .u8) = cl zs k
        rw [show k = zs.length by omega, cl_end]
      go_wp2
      go_ret
      exact ⟨rfl, by rw [HE.out]; exact hownr, hbr⟩

set_option maxHeartbeats 1000000 in
/-- zzCloneBytes of a slice without a byte in it, not nil. -/
theorem clone_zero (x : Addr) (cap : Nat) (w : World) :
    Calls Try.prog 17 #[.slice (some x) 0 cap] w fun e w' => e = .returned (.slice (some ⟨w.heap.size, 0, none⟩) 0 0) ∧
      w'.ownsRow w.heap.size 5 1 (.slice (some ⟨w.heap.size, 0, none⟩) 0 0) 0 [] ∧ Below w.heap.size w w' := by
  obtain ⟨i0, hi, hz0, hz1, hz2⟩ := info_parts info5
  have hk := fun w => Lib.run_eql_slice_nil (P := Try.prog) w 27 5 (some x) 0 cap 0 0 Try.underlying27
  go_enter Try.func17, Try.ntmps17
  go_wp2_with (at_make; refine wpList_make_full _ rfl _ _ 27 rfl w.heap.size 5 i0 (.int .u8 0) 1 Try.underlying27 hi hz0 hz1 _ _ _ _ 0 rfl rfl rfl rfl ?b2 ?b3 ?b4 ?_)
  case b2 => rw [hz2]; omega
  case b3 => unfold maxLen; omega
  case b4 => exact Nat.le_refl _
  intro w1 hown hgrow
  have hbel : Below w.heap.size w w1 := (Below.refl _ _).grown hgrow (Nat.le_refl _) (by simp)
  have hown1 : w1.ownsRow w.heap.size 5 1 (.slice (some ⟨w.heap.size, 0, none⟩) 0 0) 0 [] := by
    have e : (madeCells #[Value.int .u8 0] 0).toList = [] := by rw [toList_madeCells_one]; rfl
    rw [← e]; exact hown
  clear hown hgrow
  go_wp2
  go_loopw [4] (fun i wr => i = .int .i64 0 ∧ wr = w1) (fun i _ => 0)
  case atStart => exact ⟨rfl, rfl⟩
  case round =>
    obtain ⟨rfl, rfl⟩ := hrel
    go_wp2
    go_ret
    exact ⟨rfl, hown1, hbel⟩

set_option maxHeartbeats 1000000 in
/-- zzSameBytes of two slices without a byte. -/
theorem same_zero (a0 a1 : Option Addr) (c0 c1 : Nat) (w : World) :
    Calls Try.prog 21 #[.slice a0 0 c0, .slice a1 0 c1] w fun e w' => e = .returned (.bool true) ∧ ∃ n, w' = w.drewN n := by
  go_enter Try.func21, Try.ntmps21
  go_wp2
  go_loopw [5] (fun i wr => i = .int .i64 0 ∧ wr = w) (fun i _ => 0)
  case atStart => exact ⟨rfl, rfl⟩
  case round =>
    obtain ⟨rfl, rfl⟩ := hrel
    go_wp2
    go_ret
    exact ⟨rfl, 0, rfl⟩

set_option maxHeartbeats 1000000 in
/-- zzSameBytes of two slices that hold the same bytes. -/
theorem same_some (b0 o0 b1 o1 len c0 c1 : Nat) (zs : List Int) (w : World) (hl : len ≤ 4194304) (hz : zs.length = len)
    (h0 : ∀ i, i < len → w.cell? ⟨b0, o0 + i, none⟩ = some (.int .u8 (zs.getD i 0)))
    (h1 : ∀ i, i < len → w.cell? ⟨b1, o1 + i, none⟩ = some (.int .u8 (zs.getD i 0))) :
    Calls Try.prog 21 #[.slice (some ⟨b0, o0, none⟩) len c0, .slice (some ⟨b1, o1, none⟩) len c1] w fun e w' => e = .returned (.bool true) ∧ ∃ n, w' = w.drewN n := by
  have H0 : Hid (∀ i, i < len → w.cell? ⟨b0, o0 + i, none⟩ = some (.int .u8 (zs.getD i 0))) := h0
  have H1 : Hid (∀ i, i < len → w.cell? ⟨b1, o1 + i, none⟩ = some (.int .u8 (zs.getD i 0))) := h1
  clear h0 h1 hz
  go_enter Try.func21, Try.ntmps21
  go_wp2
  go_loopw [5] (fun i wr => ∃ k : Nat, k ≤ len ∧ i = .int .i64 k ∧ ∃ n, wr = w.drewN n) (fun i _ => len - (intOf i).toNat)
  case atStart => exact ⟨0, Nat.zero_le _, rfl, 0, rfl⟩
  case round =>
    obtain ⟨k, hk, rfl, n, rfl⟩ := hrel
    by_cases hlt : k < len
    · obtain ⟨x, hx⟩ : ∃ x, zs.getD k 0 = x := ⟨_, rfl⟩
      have hc0 := H0.out k hlt
      have hc1 := H1.out k hlt
      rw [hx] at hc0 hc1
      clear hx
      have hi0 : (0 : Int) ≤ (k : Int) := by omega
      have hi1 : (k : Int) < (len : Int) := by omega
      go_wp2_with fail
      go_quiet (fail)
      go_wp2
      go_roundw
      case rel => exact ⟨k + 1, by omega, by go_num, _, rfl⟩
      case measure => simp [intOf]; omega
    · go_wp2
      go_ret
      exact ⟨rfl, n, rfl⟩

end Go.Proofs.Qxb6613957a
