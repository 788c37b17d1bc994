import Derived.Test.Qxb6613957aWalkD
import Derived.Deep.RegionWith
import Derived.Deep.DrawnRows
set_option linter.unusedSimpArgs false
set_option linter.unusedVariables false
namespace Go.Proofs.Qxb6613957a
open Go.RowKit
attribute [local go_sem ↓] Go.wp_at_zero Go.wp_at_succ

theorem builder_alloc {T e : TypeId} {B b : Nat} {bs : List Value} {w : World} (h : Lib.IsBuilder T e B b bs w) (o : Obj) : Lib.IsBuilder T e B b bs (w.alloc o) := by
  have key : ∀ p, Lib.BuilderAt T e B b p bs w → Lib.BuilderAt T e B b p bs (w.alloc o) := by
    intro p h
    have hlt := h.lt
    obtain ⟨h1, v, h2, h3, h4⟩ := h
    exact ⟨h1, v, by rw [Below.heap_alloc w o b hlt]; exact h2, h3.alloc o, h4⟩
  rcases h with h | h
  · exact .inl (key _ h)
  · exact .inr (key _ h)

set_option maxHeartbeats 400000 in
/-- string over no span. -/
theorem string_none (c : Nat) (a : Option Addr) (cs : Nat) (w : World) :
    Calls Try.prog 33 #[.pointer (some ⟨c, 0, none⟩), .slice a 0 cs] w fun e w' => e = .returned (.string ⟨#[]⟩) ∧ Below w.heap.size w w' := by
  have hb := Lib.fresh_isBuilder 60 5 w
  go_enter Try.func33, Try.ntmps33
  go_wp2
  go_loopw [10] (fun i wr => i = .int .i64 0 ∧ wr = w.alloc (.cells #[.pointer none, .slice none 0 0] 60)) (fun i _ => 0)
  case atStart => exact ⟨rfl, rfl⟩
  case round =>
    obtain ⟨rfl, rfl⟩ := hrel
    go_wp2_with (go_at_call 38; refine (Try.Builder_String_any w.heap.size w.heap.size [] _ hb (by simp)).mono ?_; rintro e w' ⟨rfl, hbl⟩)
    go_ret
    exact ⟨rfl, ((Below.refl _ w).alloc (Nat.le_refl _) _).trans hbl⟩

set_option maxRecDepth 100000 in
set_option maxHeartbeats 1600000 in
/-- string over one span. -/
theorem string_one (c g gs n cap cs p m : Nat) (l : List UInt8) (w : World) (hlg : g < w.heap.size) (hlc : c < w.heap.size) (hls : gs < w.heap.size)
    (hc : w.cell? ⟨c, 0, none⟩ = some (.slice (some ⟨g, 0, none⟩) n cap)) (h0 : w.cell? ⟨gs, 0, none⟩ = some (.int .i64 p)) (h1 : w.cell? ⟨gs, 1, none⟩ = some (.int .i64 (p + m : Nat)))
    (hl : l.length = m) (hm : 0 < m) (hpm : p + m ≤ n) (hnc : n ≤ cap) (hn : n ≤ 4194304) (hcells : ∀ j, j < m → w.cell? ⟨g, p + j, none⟩ = some (.int .u8 (l.getD j 0).toNat)) :
    Calls Try.prog 33 #[.pointer (some ⟨c, 0, none⟩), .slice (some ⟨gs, 0, none⟩) 1 cs] w fun e w' => e = .returned (.string ⟨l.toArray⟩) ∧ Below w.heap.size w w' := by
  have hb := Lib.fresh_isBuilder 60 5 w
  have HC : Hid (∀ j, j < m → w.cell? ⟨g, p + j, none⟩ = some (.int .u8 (l.getD j 0).toNat)) := hcells
  clear hcells
  have hne : ¬ cap = p := by omega
  have e0 : (0 : Int) ≤ (p : Int) := by omega
  have e1 : (p : Int) ≤ ((p + m : Nat) : Int) := by omega
  have e2 : ((p + m : Nat) : Int) ≤ (cap : Int) := by omega
  go_enter Try.func33, Try.ntmps33
  go_wp2
  go_loopw [10] (fun i wr => (i = .int .i64 0 ∧ wr = w.alloc (.cells #[.pointer none, .slice none 0 0] 60)) ∨ (i = .int .i64 1 ∧ Lib.IsBuilder 60 5 w.heap.size w.heap.size (Lib.byteCells l) wr ∧ Below w.heap.size w wr)) (fun i _ => 1 - (intOf i).toNat)
  case atStart => exact Or.inl ⟨rfl, rfl⟩
  case round =>
    rcases hrel with ⟨rfl, rfl⟩ | ⟨rfl, hbr, hbl⟩
    · have HN : Hid (∀ (A A' : Obj), ∀ j u, (Lib.byteCells l)[j]? = some u → ((w.alloc A).alloc A').cell? ((⟨g, p, none⟩ : Addr).add j) = some u) := fun A A' j u hj => by
        have hj' : j < m := by
          have := (List.getElem?_eq_some_iff.1 hj).1
          rw [Lib.byteCells_length] at this; omega
        have e : (⟨g, p, none⟩ : Addr).add j = ⟨g, p + j, none⟩ := by unfold Addr.add; split <;> simp_all
        rw [e, World.cell?_of_block (a := ⟨g, p + j, none⟩) ((Below.heap_alloc (w.alloc A) A' g (by simp; omega)).trans (Below.heap_alloc w A g hlg)), HC.out j hj', ← hj]
        simp [Lib.byteCells, hl, hj']
      have HO : Hid (∀ u ∈ Lib.byteCells l, u.oneCell' = true) := fun u hu => by
        simp only [Lib.byteCells, List.mem_map] at hu
        obtain ⟨b, _, rfl⟩ := hu
        rfl
      have HH : Hid (∀ A', Lib.IsBuilder 60 5 w.heap.size w.heap.size [] ((w.alloc (.cells #[.pointer none, .slice none 0 0] 60)).alloc A')) := fun A' => builder_alloc hb A'
      clear hb
      go_wp2_with fail
      go_region_with (go_at_call 37; refine (Try.Builder_Write w.heap.size w.heap.size [] ⟨g, p, none⟩ m (cap - p) (Lib.byteCells l) _ (by exact HH.out _) (by rw [Lib.byteCells_length]; exact hl) (by exact HN.out _ _) (by exact hlg) HO.out (by simp; omega) (by simp; omega)).mono ?_; rintro e wx ⟨rfl, hbx, hbl⟩)
      all_goals
        go_wp2
        go_roundw
        case rel => exact Or.inr ⟨rfl, Or.inr (by simpa using hbx), ((((Below.refl _ w).alloc (Nat.le_refl _) _).alloc (by simp) _).drew).trans hbl⟩
        case measure => simp [intOf]
    · go_wp2_with (go_at_call 38; refine (Try.Builder_String_any w.heap.size w.heap.size l _ hbr hbl.size).mono ?_; rintro e w' ⟨rfl, hbl2⟩)
      go_ret
      exact ⟨rfl, hbl.trans hbl2⟩

end Go.Proofs.Qxb6613957a
