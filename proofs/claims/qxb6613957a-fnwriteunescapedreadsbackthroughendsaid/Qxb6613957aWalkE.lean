import Derived.Test.Qxb6613957aWalkD
import Derived.Deep.RegionLaw
import Derived.Deep.DrawnRows
set_option linter.unusedSimpArgs false
set_option linter.unusedVariables false
namespace Go.Proofs.Qxb6613957a
open Go.RowKit
attribute [local go_sem ↓] Go.wp_at_zero Go.wp_at_succ

theorem TB.appended {B t c : Nat} {v sp v' x : Value} {op : Bool} {st : Int} {bs : List Value} {w w1 : World} {o : Obj} (h : TB B t c v sp op st bs w)
    (hgrow : (w.alloc o).drew.grownBy w1 v.ownBlock) (hown1 : w1.ownsRow B 5 1 v' (bs.length + 1) (bs ++ [x])) :
    TB B t c v' sp op st (bs ++ [x]) (w1.setCell ⟨c, 0, none⟩ v') ∧ Below B w (w1.setCell ⟨c, 0, none⟩ v') := by
  have htt := h.ltt
  have hcc := h.ltc
  have nt := h.net
  have nc := h.nec
  have hlt := h.own.lt
  obtain ⟨h1, h2, h3, h4, ⟨cs, h5, h6⟩, h7⟩ := h
  have hs : (w.alloc o).drew.heap.size = w.heap.size + 1 := by show (w.alloc o).heap.size = _; simp
  have e : ∀ k, k < w.heap.size → (w.alloc o).drew.heap[k]? = w.heap[k]? := fun k hk => Below.heap_alloc w o k hk
  refine ⟨TB.put h1 h2 h3 ?_ (cs := cs) ?_ ?_ (by rw [List.length_append]; exact hown1), ?_⟩
  · rw [hgrow.block t (by omega) (fun e => nt e.symm), e t htt]; exact h4
  · rw [hgrow.block c (by omega) (fun e => nc e.symm), e c hcc]; exact h5
  · exact (Array.getElem?_eq_some_iff.1 h6).1
  · have b0 : Below B w (w.alloc o).drew := ((Below.refl B w).alloc (by omega) o).drew
    exact (b0.grown hgrow (by omega) (fun k hk => (hlt k hk).1)).setCell (p := ⟨c, 0, none⟩) h2 _

/-- Where the builder's own bytes begin, once it is open. -/
def stAt (op : Bool) (st : Int) (n : Nat) : Int := if op then st else n

/-- begin. -/
theorem begin_any (B t c : Nat) (v sp : Value) (op : Bool) (st : Int) (bs : List Value) (w : World) (h : TB B t c v sp op st bs w) (hl : bs.length ≤ 4194304) :
    Calls Try.prog 41 #[.pointer (some ⟨t, 0, none⟩)] w fun e w' => e = .returned (.tuple #[]) ∧ TB B t c v sp true (stAt op st bs.length) bs w' ∧ Below B w w' := by
  cases op with
  | true =>
    refine (begin_open B t c v sp st bs w h).mono ?_
    rintro e w' ⟨rfl, rfl⟩
    exact ⟨rfl, h, Below.refl _ _⟩
  | false => exact begin_shut B t c v sp st bs w h hl

set_option maxRecDepth 100000 in
set_option maxHeartbeats 1600000 in
/-- writeByte. -/
theorem wb_any (B t c : Nat) (v sp : Value) (op : Bool) (st : Int) (bs : List Value) (x : Int) (w : World) (h : TB B t c v sp op st bs w) (hl : bs.length ≤ 4194304) :
    Calls Try.prog 36 #[.pointer (some ⟨t, 0, none⟩), .int .u8 x] w fun e w' => e = .returned (.tuple #[]) ∧ (∃ v', TB B t c v' sp true (stAt op st bs.length) (bs ++ [.int .u8 x]) w') ∧ Below B w w' := by
  obtain ⟨i0, hi, hz0, hz1, hz2⟩ := info_parts info5
  go_enter Try.func36, Try.ntmps36
  go_wp2_with (go_at_call 41; refine (begin_any B t c v sp op st bs _ h hl).mono ?_)
  rintro e wb ⟨rfl, h2, hbw⟩
  have c0 := h2.c0
  have cb := h2.cb
  have lt := h2.ltt
  have lc := h2.ltc
  have nt := h2.net
  have nc := h2.nec
  have hB1 := h2.1
  have hB2 := h2.2.1
  have hown := h2.own
  have fc := h2.fzc 0
  have fa : ∀ o, (wb.alloc o).frozen? ⟨c, 0, none⟩ = false := fun o => (World.frozen?_of_block (a := ⟨c, 0, none⟩) (Below.heap_alloc wb o c lc)).trans fc
  have HT : Hid (TB B t c v sp true (stAt op st bs.length) bs wb) := h2
  clear h h2
  go_wp2
  go_region_law
    (((refine step_append_lies _ (by rfl) _ _ _ (by rfl) B 5 i0 _ 1 1 Try.underlying27 hi hz0 hz1 hz2 rfl (by omega) v bs.length bs (by rfl) ((hown.alloc _).drew) ⟨wb.heap.size, 0, none⟩ 1 1 [.int .u8 x] (by rfl) (by rfl) (World.news_of_block (cs := #[.int .u8 x]) (t := 5) (fr := (0, 0)) (heap_alloc_new wb _)) (by simp [Value.oneCell']) (by omega) (by unfold maxLen; omega) (by omega) (by simp; omega) (wb.heap.size + 1) (by simp) ?_)
      (intro gg cap w1 hown1 hgrow hat hlt)
      (have hcc : w1.cell? ⟨c, 0, none⟩ = some v := (hgrow.cell_far _ (by simp; omega) (Ne.symm nc)).trans ((World.cell?_of_block (a := ⟨c, 0, none⟩) (Below.heap_alloc wb _ c lc)).trans cb))
      (have hct : w1.cell? ⟨t, 0, none⟩ = some (.pointer (some ⟨c, 0, none⟩)) := (hgrow.cell_far _ (by simp; omega) (Ne.symm nt)).trans ((World.cell?_of_block (a := ⟨t, 0, none⟩) (Below.heap_alloc wb _ t lt)).trans c0))
      (have hff : w1.frozen? ⟨c, 0, none⟩ = false := (hgrow.frozen_far _ (by simp; omega) (Ne.symm nc)).trans (fa _))))
  all_goals (go_end0; exact ⟨rfl, ⟨_, (HT.out.appended hgrow hown1).1⟩, hbw.trans (HT.out.appended hgrow hown1).2⟩)

end Go.Proofs.Qxb6613957a
