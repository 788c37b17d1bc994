import Derived.Test.Qxb6613957aWalkG
import Derived.Test.Qxb6613957aWalkH
set_option linter.unusedSimpArgs false
set_option linter.unusedVariables false
namespace Go.Proofs.Qxb6613957a
open Go.RowKit
attribute [local go_sem ↓] Go.wp_at_zero Go.wp_at_succ

set_option maxHeartbeats 400000 in
theorem zbytes (B t c : Nat) (v sp : Value) (op : Bool) (st : Int) (bs : List Value) (w : World) (h : TB B t c v sp op st bs w) :
    Calls Try.prog 22 #[.pointer (some ⟨t, 0, none⟩)] w fun e w' => e = .returned v ∧ w = w' := by
  have c0 := h.c0
  have cb := h.cb
  obtain ⟨ao, cap, rfl⟩ := h.vform
  go_enter Try.func22, Try.ntmps22
  go_wp2
  go_ret
  exact ⟨rfl, rfl⟩

set_option maxHeartbeats 400000 in
theorem zopen (B t c : Nat) (v sp : Value) (op : Bool) (st : Int) (bs : List Value) (w : World) (h : TB B t c v sp op st bs w) :
    Calls Try.prog 23 #[.pointer (some ⟨t, 0, none⟩)] w fun e w' => e = .returned (.bool op) ∧ w = w' := by
  have c2 := h.c2
  go_enter Try.func23, Try.ntmps23
  go_wp2
  go_ret
  exact ⟨rfl, rfl⟩

set_option maxHeartbeats 400000 in
theorem zcount (B t c n cs : Nat) (a : Option Addr) (v : Value) (op : Bool) (st : Int) (bs : List Value) (w : World) (h : TB B t c v (.slice a n cs) op st bs w) :
    Calls Try.prog 25 #[.pointer (some ⟨t, 0, none⟩)] w fun e w' => e = .returned (.int .i64 n) ∧ w = w' := by
  have c1 := h.c1
  go_enter Try.func25, Try.ntmps25
  go_wp2
  go_ret
  exact ⟨rfl, rfl⟩

set_option maxHeartbeats 400000 in
theorem zend_shut (B t c : Nat) (v sp : Value) (st : Int) (bs : List Value) (w : World) (h : TB B t c v sp false st bs w) :
    Calls Try.prog 27 #[.pointer (some ⟨t, 0, none⟩)] w fun e w' => e = .returned (.tuple #[]) ∧ w = w' := by
  go_enter Try.func27, Try.ntmps27
  go_wp2_with (go_at_call 32; refine (end_shut B t c v sp st bs _ h).mono ?_; rintro e w' ⟨rfl, rfl⟩)
  go_end0
  exact ⟨rfl, rfl⟩

set_option maxHeartbeats 400000 in
theorem zend_open (B t c : Nat) (v : Value) (st : Int) (bs : List Value) (w : World) (h : TB B t c v (.slice none 0 0) true st bs w) (hl : bs.length ≤ 4194304) :
    Calls Try.prog 27 #[.pointer (some ⟨t, 0, none⟩)] w fun e w' => e = .returned (.tuple #[]) ∧
      (∃ v' sp', TS B t c v' sp' false st (bs ++ [.int .u8 10]) 1 [.int .i64 st, .int .i64 bs.length] w') ∧ Below B w w' := by
  go_enter Try.func27, Try.ntmps27
  go_wp2_with (go_at_call 32; refine (end_open B t c v st bs _ h hl).mono ?_; rintro e w' ⟨rfl, hx, hb⟩)
  go_end0
  exact ⟨rfl, hx, hb⟩

theorem tb_new {B : Nat} {v : Value} {bs : List Value} {w : World} (cs : Array Value) (hcs : cs[0]? = some v) (h : w.ownsRow B 5 1 v bs.length bs) (hB : B ≤ w.heap.size) :
    TB B (w.heap.size + 1) w.heap.size v (.slice none 0 0) false 0 bs ((w.alloc (.cells cs 50)).alloc (.cells #[.pointer (some ⟨w.heap.size, 0, none⟩), .slice none 0 0, .bool false, .int .i64 0, .bool false, .slice none 0 0] 53)) := by
  refine ⟨by omega, hB, by omega, ?_, ⟨cs, ?_, hcs⟩, (h.alloc _).alloc _⟩
  · have := heap_alloc_new (w.alloc (.cells cs 50)) (.cells #[.pointer (some ⟨w.heap.size, 0, none⟩), .slice none 0 0, .bool false, .int .i64 0, .bool false, .slice none 0 0] 53)
    simpa using this
  · rw [Below.heap_alloc _ _ _ (by simp)]
    exact heap_alloc_new w _

set_option maxRecDepth 100000 in
set_option maxHeartbeats 1000000 in
theorem znew (B : Nat) (v : Value) (bs : List Value) (w : World) (h : w.ownsRow B 5 1 v bs.length bs) (hB : B ≤ w.heap.size) :
    Calls Try.prog 18 #[v, .bool false, .int .i64 0] w fun e w' => e = .returned (.pointer (some ⟨w.heap.size + 1, 0, none⟩)) ∧
      TB B (w.heap.size + 1) w.heap.size v (.slice none 0 0) false 0 bs w' ∧ Below w.heap.size w w' := by
  have HO : Hid (w.ownsRow B 5 1 v bs.length bs) := h
  obtain ⟨ao, cap, rfl⟩ : ∃ ao cap, v = .slice ao bs.length cap := by
    rcases h.2 with ⟨hv, h0⟩ | ⟨g, cap, cur, hv, _⟩
    · exact ⟨none, 0, by rw [h0]; exact hv⟩
    · exact ⟨_, _, hv⟩
  clear h
  go_enter Try.func18, Try.ntmps18
  go_wp2
  go_ret
  exact ⟨rfl, tb_new _ rfl HO.out hB, ((Below.refl _ w).alloc (Nat.le_refl _) _).alloc (by simp) _⟩

/-- string's contract, met by a builder whose one span holds the bytes l. -/
theorem string_ts {B t c : Nat} {v sp : Value} {op : Bool} {pre : List Value} {l : List UInt8} {w : World} {n : Nat} (hn : n = pre.length)
    (h : TS B t c v sp op n (pre ++ Lib.byteCells l ++ [.int .u8 10]) 1 [.int .i64 n, .int .i64 (pre ++ Lib.byteCells l).length] w) (hl : l ≠ []) (hb : pre.length + l.length ≤ 2097152) :
    Calls Try.prog 33 #[.pointer (some ⟨c, 0, none⟩), sp] w fun e w' => e = .returned (.string ⟨l.toArray⟩) ∧ Below w.heap.size w w' := by
  obtain ⟨h1, h2⟩ := h
  have hl0 : 0 < l.length := by cases l <;> simp_all
  obtain ⟨gs, cs, rfl, _, hls⟩ := h2.form (by omega)
  have hown := h1.own
  have hlen : (pre ++ Lib.byteCells l ++ [Value.int .u8 10]).length = pre.length + l.length + 1 := by simp [Lib.byteCells_length]; omega
  obtain ⟨g, cap, rfl, _, hlg⟩ := hown.form (by omega)
  have hcap : (pre ++ Lib.byteCells l ++ [Value.int .u8 10]).length ≤ cap := by
    rcases hown.2 with ⟨h', _⟩ | ⟨g', cap', cur, h', _, _, hnc, _⟩
    · cases h'
    · simp only [Value.slice.injEq] at h'; omega
  refine string_one c g gs (pre ++ Lib.byteCells l ++ [Value.int .u8 10]).length cap cs n l.length l w hlg h1.ltc hls h1.cb ?_ ?_ rfl hl0 (by omega) hcap (by omega) ?_
  · rw [h2.cellAt 0 (by omega)]; rfl
  · rw [h2.cellAt 1 (by omega)]; simp [Lib.byteCells_length, hn]
  · intro j hj
    rw [hown.cellAt (n + j) (by omega), hn, List.append_assoc, List.getElem?_append_right (by omega)]
    rw [List.getElem?_append_left (by simp [Lib.byteCells_length]; omega)]
    simp [Lib.byteCells, hj]

set_option maxRecDepth 100000 in
set_option maxHeartbeats 1000000 in
/-- ZZtext of a builder whose one span holds the bytes l. -/
theorem ztext_one (B t c : Nat) (v sp : Value) (op : Bool) (pre : List Value) (l : List UInt8) (n : Nat) (w : World) (hn : n = pre.length)
    (h : TS B t c v sp op n (pre ++ Lib.byteCells l ++ [.int .u8 10]) 1 [.int .i64 n, .int .i64 (pre ++ Lib.byteCells l).length] w) (hl : l ≠ []) (hb : pre.length + l.length ≤ 2097152) :
    Calls Try.prog 28 #[.pointer (some ⟨t, 0, none⟩)] w fun e w' => e = .returned (.string ⟨l.toArray⟩) ∧ Below w.heap.size w w' := by
  have c0 := h.1.c0
  have c1 := h.1.c1
  have HS : Hid (Calls Try.prog 33 #[.pointer (some ⟨c, 0, none⟩), sp] w.drew fun e w' => e = .returned (.string ⟨l.toArray⟩) ∧ Below w.drew.heap.size w.drew w') :=
    string_ts (w := w.drew) hn h hl hb
  obtain ⟨gs, cs, rfl, _, hls⟩ := h.2.form (by omega)
  clear h
  go_enter Try.func28, Try.ntmps28
  go_wp2_with fail
  go_region_with (go_at_call 33; refine Calls.mono HS.out ?_; rintro e wx ⟨rfl, hbl⟩)
  all_goals
    go_wp2
    go_ret
    exact ⟨rfl, (Below.refl _ w).drew.trans hbl⟩

set_option maxRecDepth 100000 in
set_option maxHeartbeats 1000000 in
/-- ZZtext of a builder without a span. -/
theorem ztext_none (B t c : Nat) (v : Value) (op : Bool) (st : Int) (bs : List Value) (w : World) (h : TB B t c v (.slice none 0 0) op st bs w) :
    Calls Try.prog 28 #[.pointer (some ⟨t, 0, none⟩)] w fun e w' => e = .returned (.string ⟨#[]⟩) ∧ Below w.heap.size w w' := by
  have c0 := h.c0
  have c1 := h.c1
  clear h
  go_enter Try.func28, Try.ntmps28
  go_wp2_with fail
  go_region_with (go_at_call 33; refine (string_none c none 0 _).mono ?_; rintro e wx ⟨rfl, hbl⟩)
  all_goals
    go_wp2
    go_ret
    exact ⟨rfl, (Below.refl _ w).drew.trans hbl⟩

end Go.Proofs.Qxb6613957a
