import Derived.Test.Qxb6613957aWalkF
import Derived.Deep.RegionLaw
import Derived.Deep.DrawnRows
import Derived.Deep.DeepCutAuto
set_option linter.unusedSimpArgs false
set_option linter.unusedVariables false
namespace Go.Proofs.Qxb6613957a
open Go.RowKit
attribute [local go_sem ↓] Go.wp_at_zero Go.wp_at_succ

theorem info44 : (Try.prog.info? 44).map (fun i => (i.zero, i.size, i.bytes)) = some (some (.agg #[.int .i64 0, .int .i64 0]), 2, 16) := by kernel_rfl

theorem rows_apart {w : World} {B B' : Nat} {e e' : TypeId} {s s' : Nat} {v v' : Value} {n n' : Nat} {xs xs' : List Value} (h : w.ownsRow B e s v n xs) (h' : w.ownsRow B' e' s' v' n' xs') (he : e ≠ e') :
    v.ownBlock = none ∨ v.ownBlock ≠ v'.ownBlock := by
  rcases h.2 with ⟨rfl, _⟩ | ⟨g, cap, cur, rfl, _, hg, _⟩
  · exact .inl rfl
  · right
    rcases h'.2 with ⟨rfl, _⟩ | ⟨g', cap', cur', rfl, _, hg', _⟩
    · simp [Value.ownBlock]
    · intro e1
      simp only [Value.ownBlock, Option.some.injEq] at e1
      subst e1
      rw [hg] at hg'
      simp only [Option.some.injEq, Obj.cells.injEq] at hg'
      exact he hg'.2.1

theorem row_not_block {w : World} {B : Nat} {e T : TypeId} {s : Nat} {v : Value} {n : Nat} {xs : List Value} {b : Nat} {cs : Array Value} {fr : Nat × Nat} (h : w.ownsRow B e s v n xs) (hb : w.heap[b]? = some (.cells cs T fr)) (he : T ≠ e) : v.ownBlock ≠ some b := by
  rcases h.2 with ⟨rfl, _⟩ | ⟨g, cap, cur, rfl, _, hg, _⟩
  · simp [Value.ownBlock]
  · intro h
    simp only [Value.ownBlock, Option.some.injEq] at h
    subst h
    rw [hg] at hb
    simp only [Option.some.injEq, Obj.cells.injEq] at hb
    exact he hb.2.1.symm

theorem grown_setCell (w : World) (b j : Nat) (u : Value) : w.grownBy (w.setCell ⟨b, j, none⟩ u) (some b) :=
  ⟨rfl, rfl, rfl, by simp [World.setCell], fun k _ hk => Below.heap_setCell _ _ _ _ (fun e => hk (by simp [e]))⟩

/-- The builder with its spans. -/
def TS (B t c : Nat) (v sp : Value) (op : Bool) (st : Int) (bs : List Value) (ns : Nat) (ss : List Value) (w : World) : Prop :=
  TB B t c v sp op st bs w ∧ w.ownsRow B 44 2 sp ns ss

theorem spanned {B t c : Nat} {v : Value} {st : Int} {bs : List Value} {w w1 : World} {o : Obj} {gg cap : Nat} {ss : List Value} (h : TB B t c v (.slice none 0 0) true st bs w)
    (hgrow : (w.alloc o).drew.grownBy w1 none) (hown1 : w1.ownsRow B 44 2 (.slice (some ⟨gg, 0, none⟩) 1 cap) 1 ss) :
    TS B t c v (.slice (some ⟨gg, 0, none⟩) 1 cap) true st bs 1 ss (w1.setCell ⟨t, 1, none⟩ (.slice (some ⟨gg, 0, none⟩) 1 cap)) ∧ Below B w (w1.setCell ⟨t, 1, none⟩ (.slice (some ⟨gg, 0, none⟩) 1 cap)) := by
  have hs : (w.alloc o).drew.heap.size = w.heap.size + 1 := by show (w.alloc o).heap.size = _; simp
  have g1 : w.grownBy (w.alloc o).drew none := ⟨rfl, rfl, rfl, by omega, fun k hk _ => Below.heap_alloc w o k hk⟩
  have htt := h.ltt
  have k1 : TB B t c v (.slice none 0 0) true st bs w1 := (h.kept g1 (by simp) (by simp) (by cases v.ownBlock <;> simp)).kept hgrow (by simp) (by simp) (by cases v.ownBlock <;> simp)
  have b1 : Below B w w1 := (((Below.refl B w).alloc (by have := h.1; omega) o).drew).grown hgrow (by have := h.1; omega) (by simp)
  refine ⟨⟨k1.stored 1 _ rfl, ?_⟩, b1.setCell (p := ⟨t, 1, none⟩) h.1 _⟩
  exact hown1.kept (grown_setCell w1 t 1 _) (Or.inr (row_not_block hown1 k1.2.2.2.1 (by decide)))

theorem ended {B t c : Nat} {v sp v' x : Value} {op : Bool} {st : Int} {bs : List Value} {ns : Nat} {ss : List Value} {w w1 : World} {o : Obj} (h : TS B t c v sp op st bs ns ss w)
    (hgrow : (w.alloc o).drew.grownBy w1 v.ownBlock) (hown1 : w1.ownsRow B 5 1 v' (bs.length + 1) (bs ++ [x])) :
    TS B t c v' sp op st (bs ++ [x]) ns ss (w1.setCell ⟨c, 0, none⟩ v') ∧ Below B w (w1.setCell ⟨c, 0, none⟩ v') := by
  obtain ⟨h1, h2⟩ := h
  have a := h1.appended hgrow hown1
  refine ⟨⟨a.1, ?_⟩, a.2⟩
  have hcc := h1.ltc
  have nc := h1.nec
  obtain ⟨cs, hc, _⟩ := h1.2.2.2.2.1
  have hs : (w.alloc o).drew.heap.size = w.heap.size + 1 := by show (w.alloc o).heap.size = _; simp
  have hc1 : w1.heap[c]? = some (.cells cs 50 (0, 0)) := by
    rw [hgrow.block c (by omega) (fun e => nc e.symm)]
    exact (Below.heap_alloc w o c hcc).trans hc
  have k1 : (w.alloc o).drew.ownsRow B 44 2 sp ns ss := (h2.alloc o).drew
  have k2 : w1.ownsRow B 44 2 sp ns ss := k1.kept hgrow (rows_apart k1 ((h1.own.alloc o).drew) (by decide))
  exact k2.kept (grown_setCell w1 c 0 _) (Or.inr (row_not_block k2 hc1 (by decide)))

theorem closed {B t c : Nat} {v sp : Value} {st : Int} {bs : List Value} {ns : Nat} {ss : List Value} {w : World} (h : TS B t c v sp true st bs ns ss w) : TS B t c v sp false st bs ns ss (w.setCell ⟨t, 2, none⟩ (.bool false)) :=
  ⟨h.1.stored 2 _ rfl, h.2.kept (grown_setCell w t 2 _) (Or.inr (row_not_block h.2 h.1.2.2.2.1 (by decide)))⟩

set_option maxHeartbeats 400000 in
theorem end_shut (B t c : Nat) (v sp : Value) (st : Int) (bs : List Value) (w : World) (h : TB B t c v sp false st bs w) :
    Calls Try.prog 32 #[.pointer (some ⟨t, 0, none⟩)] w fun e w' => e = .returned (.tuple #[]) ∧ w = w' := by
  have c2 := h.c2
  go_enter Try.func32, Try.ntmps32
  go_wp2
  go_end0
  exact ⟨rfl, rfl⟩

set_option maxRecDepth 100000 in
set_option maxHeartbeats 3200000 in
theorem end_open (B t c : Nat) (v : Value) (st : Int) (bs : List Value) (w : World) (h : TB B t c v (.slice none 0 0) true st bs w) (hl : bs.length ≤ 4194304) :
    Calls Try.prog 32 #[.pointer (some ⟨t, 0, none⟩)] w fun e w' => e = .returned (.tuple #[]) ∧
      (∃ v' sp', TS B t c v' sp' false st (bs ++ [.int .u8 10]) 1 [.int .i64 st, .int .i64 bs.length] w') ∧ Below B w w' := by
  obtain ⟨i0, hi, hz0, hz1, hz2⟩ := info_parts info5
  obtain ⟨j0, hj, hy0, hy1, hy2⟩ := info_parts info44
  have c2 := h.c2
  have HT : Hid (TB B t c v (.slice none 0 0) true st bs w) := h
  have lt := h.ltt
  have hB1 := h.1
  go_enter Try.func32, Try.ntmps32
  go_upto_region 1 with fail
  go_cut [] (fun wc => Hid (∃ sp', TS B t c v sp' true st bs 1 [.int .i64 st, .int .i64 bs.length] wc ∧ Below B w wc))
  case first =>
    have c0 := h.c0
    have c1 := h.c1
    have c3 := h.c3
    have cb := h.cb
    have lc := h.ltc
    have f1 := h.fzt 1
    obtain ⟨ao, cap0, rfl⟩ := h.vform
    clear h
    go_region_law
      (((refine step_append_lies _ (by rfl) _ _ _ (by rfl) B 44 j0 _ 2 16 Try.underlying42 hj hy0 hy1 hy2 rfl (by omega) (.slice none 0 0) 0 [] (by rfl) (World.ownsRow_nil _ _ _ _) ⟨w.heap.size, 0, none⟩ 1 1 [.int .i64 st, .int .i64 bs.length] (by rfl) (by rfl) (World.news_of_block (cs := #[.int .i64 st, .int .i64 bs.length]) (t := 44) (fr := (0, 0)) (heap_alloc_new w _)) (by simp [Value.oneCell']) (by omega) (by unfold maxLen; omega) (by omega) (by simp; omega) (w.heap.size + 1) (by simp) ?_)
        (intro gg cap w1 hown1 hgrow hat hlt)
        (have hcc : w1.cell? ⟨t, 1, none⟩ = some (.slice none 0 0) := (hgrow.cell_far _ (by simp; omega) (by simp [Value.ownBlock])).trans ((World.cell?_of_block (a := ⟨t, 1, none⟩) (Below.heap_alloc w _ t lt)).trans c1))
        (have hff : w1.frozen? ⟨t, 1, none⟩ = false := (hgrow.frozen_far _ (by simp; omega) (by simp [Value.ownBlock])).trans ((World.frozen?_of_block (a := ⟨t, 1, none⟩) (Below.heap_alloc w _ t lt)).trans f1))))
    all_goals (go_wp2_with fail; go_meet; exact ⟨_, spanned HT.out hgrow hown1⟩)
  case rest =>
    obtain ⟨sp', hTS, hbw⟩ := hcut.out
    clear h HT c2 hcut lt
    obtain ⟨h2, hspn⟩ := hTS
    have HT : Hid (TS B t c v sp' true st bs 1 [.int .i64 st, .int .i64 bs.length] wc) := ⟨h2, hspn⟩
    clear hspn
    go_wp2_with fail
    go_cut [] (fun wd => Hid (∃ v', TS B t c v' sp' true st (bs ++ [.int .u8 10]) 1 [.int .i64 st, .int .i64 bs.length] wd ∧ Below B w wd))
    case first =>
      have c0 := h2.c0
      have cb := h2.cb
      have lt := h2.ltt
      have lc := h2.ltc
      have nt := h2.net
      have nc := h2.nec
      have hown := h2.own
      have hB2 := h2.2.1
      have fc := h2.fzc 0
      have fa : ∀ o, (wc.alloc o).frozen? ⟨c, 0, none⟩ = false := fun o => (World.frozen?_of_block (a := ⟨c, 0, none⟩) (Below.heap_alloc wc o c lc)).trans fc
      clear h2
      go_region_law
        (((refine step_append_lies _ (by rfl) _ _ _ (by rfl) B 5 i0 _ 1 1 Try.underlying27 hi hz0 hz1 hz2 rfl (by omega) v bs.length bs (by rfl) ((hown.alloc _).drew) ⟨wc.heap.size, 0, none⟩ 1 1 [.int .u8 10] (by rfl) (by rfl) (World.news_of_block (cs := #[.int .u8 10]) (t := 5) (fr := (0, 0)) (heap_alloc_new wc _)) (by simp [Value.oneCell']) (by omega) (by unfold maxLen; omega) (by omega) (by simp; omega) (wc.heap.size + 1) (by simp) ?_)
          (intro gg cap w1 hown1 hgrow hat hlt)
          (have hcc : w1.cell? ⟨c, 0, none⟩ = some v := (hgrow.cell_far _ (by simp; omega) (Ne.symm nc)).trans ((World.cell?_of_block (a := ⟨c, 0, none⟩) (Below.heap_alloc wc _ c lc)).trans cb))
          (have hct : w1.cell? ⟨t, 0, none⟩ = some (.pointer (some ⟨c, 0, none⟩)) := (hgrow.cell_far _ (by simp; omega) (Ne.symm nt)).trans ((World.cell?_of_block (a := ⟨t, 0, none⟩) (Below.heap_alloc wc _ t lt)).trans c0))
          (have hff : w1.frozen? ⟨c, 0, none⟩ = false := (hgrow.frozen_far _ (by simp; omega) (Ne.symm nc)).trans (fa _))))
      all_goals (go_wp2_with fail; go_meet; exact ⟨_, (ended HT.out hgrow hown1).1, hbw.trans (ended HT.out hgrow hown1).2⟩)
    case rest =>
      obtain ⟨v', hTS, hbw2⟩ := hcut.out
      have c2 := hTS.1.c2
      have f2 := hTS.1.fzt 2
      clear hcut HT h2
      have HF : Hid (TS B t c v' sp' false st (bs ++ [.int .u8 10]) 1 [.int .i64 st, .int .i64 bs.length] (wc.setCell ⟨t, 2, none⟩ (.bool false))) := closed hTS
      have hB := hTS.1.1
      clear hTS
      go_wp2
      go_end0
      exact ⟨rfl, ⟨_, _, HF.out⟩, hbw2.setCell (p := ⟨t, 2, none⟩) hB _⟩

end Go.Proofs.Qxb6613957a
