import Derived.Test.Qxb6613957aWalkC
import Derived.Test.Qxb6613957aShelf
import Derived.Deep.RegionHeld3
import Derived.Deep.AppendLies
set_option linter.unusedSimpArgs false
set_option linter.unusedVariables false
namespace Go.Proofs.Qxb6613957a
open Go.RowKit

/-- A textBuilder that the call has made, in block t, over a commandText in block c, whose bytes are bs. -/
def TB (B t c : Nat) (v sp : Value) (op : Bool) (st : Int) (bs : List Value) (w : World) : Prop :=
  B ≤ t ∧ B ≤ c ∧ t ≠ c ∧
  w.heap[t]? = some (.cells #[.pointer (some ⟨c, 0, none⟩), sp, .bool op, .int .i64 st, .bool false, .slice none 0 0] 53 (0, 0)) ∧
  (∃ cs, w.heap[c]? = some (.cells cs 50 (0, 0)) ∧ cs[0]? = some v) ∧ w.ownsRow B 5 1 v bs.length bs

section
variable {B t c : Nat} {v sp : Value} {op : Bool} {st : Int} {bs : List Value} {w : World}

theorem lt_of_heap {w : World} {b : Nat} {o : Obj} (h : w.heap[b]? = some o) : b < w.heap.size := by
  rcases Nat.lt_or_ge b w.heap.size with h' | h'
  · exact h'
  · simp [Array.getElem?_eq_none h'] at h

theorem TB.c0 (h : TB B t c v sp op st bs w) : w.cell? ⟨t, 0, none⟩ = some (.pointer (some ⟨c, 0, none⟩)) := by rw [Lib.cell_of_heap h.2.2.2.1]; rfl
theorem TB.c1 (h : TB B t c v sp op st bs w) : w.cell? ⟨t, 1, none⟩ = some sp := by rw [Lib.cell_of_heap h.2.2.2.1]; rfl
theorem TB.c2 (h : TB B t c v sp op st bs w) : w.cell? ⟨t, 2, none⟩ = some (.bool op) := by rw [Lib.cell_of_heap h.2.2.2.1]; rfl
theorem TB.c3 (h : TB B t c v sp op st bs w) : w.cell? ⟨t, 3, none⟩ = some (.int .i64 st) := by rw [Lib.cell_of_heap h.2.2.2.1]; rfl
theorem TB.cb (h : TB B t c v sp op st bs w) : w.cell? ⟨c, 0, none⟩ = some v := by
  obtain ⟨cs, h1, h2⟩ := h.2.2.2.2.1
  rw [Lib.cell_of_heap h1]; exact h2
theorem TB.fzt (h : TB B t c v sp op st bs w) (j : Nat) : w.frozen? ⟨t, j, none⟩ = false := Lib.frozen_of_heap h.2.2.2.1 j
theorem TB.fzc (h : TB B t c v sp op st bs w) (j : Nat) : w.frozen? ⟨c, j, none⟩ = false := by
  obtain ⟨cs, h1, h2⟩ := h.2.2.2.2.1
  exact Lib.frozen_of_heap h1 j
theorem TB.own (h : TB B t c v sp op st bs w) : w.ownsRow B 5 1 v bs.length bs := h.2.2.2.2.2
theorem TB.ltt (h : TB B t c v sp op st bs w) : t < w.heap.size := lt_of_heap h.2.2.2.1
theorem TB.ltc (h : TB B t c v sp op st bs w) : c < w.heap.size := by
  obtain ⟨cs, h1, h2⟩ := h.2.2.2.2.1
  exact lt_of_heap h1
theorem TB.net (h : TB B t c v sp op st bs w) : v.ownBlock ≠ some t := Lib.ownBlock_ne h.own h.2.2.2.1 (by decide)
theorem TB.nec (h : TB B t c v sp op st bs w) : v.ownBlock ≠ some c := by
  obtain ⟨cs, h1, h2⟩ := h.2.2.2.2.1
  exact Lib.ownBlock_ne h.own h1 (by decide)
theorem TB.vform (h : TB B t c v sp op st bs w) : ∃ ao cap, v = .slice ao bs.length cap := by
  rcases h.own.2 with ⟨hv, h0⟩ | ⟨g, cap, cur, hv, _⟩
  · exact ⟨none, 0, by rw [h0]; exact hv⟩
  · exact ⟨_, _, hv⟩

/-- A store into the builder's own block. -/
theorem TB.stored (h : TB B t c v sp op st bs w) {sp' : Value} {op' : Bool} {st' : Int} (j : Nat) (u : Value)
    (e : (#[.pointer (some ⟨c, 0, none⟩), sp, .bool op, .int .i64 st, .bool false, .slice none 0 0] : Array Value).setIfInBounds j u = #[.pointer (some ⟨c, 0, none⟩), sp', .bool op', .int .i64 st', .bool false, .slice none 0 0]) :
    TB B t c v sp' op' st' bs (w.setCell ⟨t, j, none⟩ u) := by
  obtain ⟨h1, h2, h3, h4, ⟨cs, h5, h6⟩, h7⟩ := h
  have hnet := Lib.ownBlock_ne h7 h4 (by decide)
  refine ⟨h1, h2, h3, ?_, ⟨cs, ?_, h6⟩, ?_⟩
  · rw [← e]; exact heap_setCell_same w t j _ 53 u h4
  · rw [Below.heap_setCell _ _ _ _ (fun e => h3 e.symm)]; exact h5
  · exact h7.kept (row := some t) ⟨rfl, rfl, rfl, by simp [World.setCell], fun k _ hk => Below.heap_setCell _ _ _ _ (fun e => hk (by simp [e]))⟩ (Or.inr hnet)

/-- New bytes laid into the commandText. -/
theorem TB.put (h1 : B ≤ t) (h2 : B ≤ c) (h3 : t ≠ c)
    (h4 : w.heap[t]? = some (.cells #[.pointer (some ⟨c, 0, none⟩), sp, .bool op, .int .i64 st, .bool false, .slice none 0 0] 53 (0, 0)))
    {cs : Array Value} (h5 : w.heap[c]? = some (.cells cs 50 (0, 0))) (h6 : 0 < cs.size) {v' : Value} {bs' : List Value} (h7 : w.ownsRow B 5 1 v' bs'.length bs') :
    TB B t c v' sp op st bs' (w.setCell ⟨c, 0, none⟩ v') := by
  have hnec := Lib.ownBlock_ne h7 h5 (by decide)
  refine ⟨h1, h2, h3, ?_, ⟨cs.setIfInBounds 0 v', ?_, ?_⟩, ?_⟩
  · rw [Below.heap_setCell _ _ _ _ (fun e => h3 e)]; exact h4
  · exact heap_setCell_same w c 0 _ 50 v' h5
  · simp [h6]
  · exact h7.kept (row := some c) ⟨rfl, rfl, rfl, by simp [World.setCell], fun k _ hk => Below.heap_setCell _ _ _ _ (fun e => hk (by simp [e]))⟩ (Or.inr hnec)

/-- Another row grows, or a new block is laid. -/
theorem TB.kept {w' : World} {row : Option Nat} (h : TB B t c v sp op st bs w) (hg : w.grownBy w' row) (ht : some t ≠ row) (hc : some c ≠ row) (hv : v.ownBlock = none ∨ v.ownBlock ≠ row) : TB B t c v sp op st bs w' := by
  have htt := h.ltt
  have hcc := h.ltc
  obtain ⟨h1, h2, h3, h4, ⟨cs, h5, h6⟩, h7⟩ := h
  refine ⟨h1, h2, h3, ?_, ⟨cs, ?_, h6⟩, h7.kept hg hv⟩
  · rw [hg.block t htt ht]; exact h4
  · rw [hg.block c hcc hc]; exact h5
theorem TB.drewN (h : TB B t c v sp op st bs w) (n : Nat) : TB B t c v sp op st bs (w.drewN n) := h
end

set_option maxHeartbeats 400000 in
/-- begin, open already. -/
theorem begin_open (B t c : Nat) (v sp : Value) (st : Int) (bs : List Value) (w : World) (h : TB B t c v sp true st bs w) :
    Calls Try.prog 41 #[.pointer (some ⟨t, 0, none⟩)] w fun e w' => e = .returned (.tuple #[]) ∧ w = w' := by
  have c2 := h.c2
  go_enter Try.func41, Try.ntmps41
  go_wp2
  go_end0
  exact ⟨rfl, rfl⟩

set_option maxHeartbeats 400000 in
/-- begin, not open yet. -/
theorem begin_shut (B t c : Nat) (v sp : Value) (st : Int) (bs : List Value) (w : World) (h : TB B t c v sp false st bs w) (hl : bs.length ≤ 4194304) :
    Calls Try.prog 41 #[.pointer (some ⟨t, 0, none⟩)] w fun e w' => e = .returned (.tuple #[]) ∧ TB B t c v sp true bs.length bs w' ∧ Below B w w' := by
  have c0 := h.c0
  have c2 := h.c2
  have c3 := h.c3
  have cb := h.cb
  have f2 := h.fzt 2
  have f3 := h.fzt 3
  obtain ⟨ao, cap, rfl⟩ := h.vform
  have H2 := (h.stored (sp' := sp) (op' := true) (st' := st) 2 (.bool true) rfl).stored (sp' := sp) (op' := true) (st' := bs.length) 3 (.int .i64 bs.length) rfl
  have HB : Below B w ((w.setCell ⟨t, 2, none⟩ (.bool true)).setCell ⟨t, 3, none⟩ (.int .i64 bs.length)) := ((Below.refl B w).setCell (p := ⟨t, 2, none⟩) h.1 _).setCell (p := ⟨t, 3, none⟩) h.1 _
  have HH : Hid _ := H2
  clear h H2
  go_enter Try.func41, Try.ntmps41
  go_wp2
  go_end0
  exact ⟨rfl, HH.out, HB⟩

end Go.Proofs.Qxb6613957a
