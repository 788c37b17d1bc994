import Derived.Test.Qxb6613957aWalkI
set_option linter.unusedSimpArgs false
set_option linter.unusedVariables false
namespace Go.Proofs.Qxb6613957a
open Go.RowKit

/-- A slice of bytes that can be read: the numbers zs. -/
def Src (v : Value) (zs : List Int) (w : World) : Prop :=
  (v = .slice none 0 0 ∧ zs = []) ∨ (∃ x cap, v = .slice (some x) 0 cap ∧ zs = []) ∨
  (∃ b off cap, v = .slice (some ⟨b, off, none⟩) zs.length cap ∧ 0 < zs.length ∧ b < w.heap.size ∧ ∀ i, i < zs.length → w.cell? ⟨b, off + i, none⟩ = some (.int .u8 (zs.getD i 0)))

theorem Src.below {v : Value} {zs : List Int} {w w' : World} (h : Src v zs w) (hb : Below w.heap.size w w') : Src v zs w' := by
  rcases h with h | h | ⟨b, off, cap, hv, h0, hlt, hc⟩
  · exact .inl h
  · exact .inr (.inl h)
  · exact .inr (.inr ⟨b, off, cap, hv, h0, Nat.lt_of_lt_of_le hlt hb.size, fun i hi => (hb.cell (p := ⟨b, off + i, none⟩) hlt).trans (hc i hi)⟩)

theorem own_src {B : Nat} {v : Value} {zs : List Int} {w : World} (h : w.ownsRow B 5 1 v zs.length (zs.map (Value.int .u8))) : Src v zs w := by
  rcases h.2 with ⟨rfl, h0⟩ | ⟨g, cap, cur, rfl, _, hg, _⟩
  · exact .inl ⟨rfl, List.eq_nil_of_length_eq_zero h0⟩
  · by_cases h0 : zs.length = 0
    · exact .inr (.inl ⟨_, cap, by rw [h0], List.eq_nil_of_length_eq_zero h0⟩)
    · refine .inr (.inr ⟨g, 0, cap, rfl, by omega, lt_of_heap hg, fun i hi => ?_⟩)
      rw [Nat.zero_add, h.cellAt i (by omega)]
      simp [List.getD, hi]

theorem own_below {B : Nat} {e : TypeId} {s : Nat} {v : Value} {n : Nat} {xs : List Value} {w w' : World} (h : w.ownsRow B e s v n xs) (hb : Below w.heap.size w w') : w'.ownsRow B e s v n xs := by
  refine ⟨h.1, ?_⟩
  rcases h.2 with h2 | ⟨g, cap, cur, hv, hg, hh, r⟩
  · exact .inl h2
  · exact .inr ⟨g, cap, cur, hv, hg, (hb.block g (lt_of_heap hh)).trans hh, r⟩

theorem clone_any (v : Value) (zs : List Int) (w : World) (h : Src v zs w) (hl : zs.length ≤ 1048576) :
    Calls Try.prog 17 #[v] w fun e w' => ∃ v', e = .returned v' ∧ w'.ownsRow w.heap.size 5 1 v' zs.length (zs.map (Value.int .u8)) ∧ Below w.heap.size w w' := by
  rcases h with ⟨rfl, rfl⟩ | ⟨x, cap, rfl, rfl⟩ | ⟨b, off, cap, rfl, h0, hlt, hc⟩
  · refine (clone_nil 0 0 w).mono ?_
    rintro e w' ⟨rfl, rfl⟩
    exact ⟨_, rfl, World.ownsRow_nil _ _ _ _, Below.refl _ _⟩
  · refine (clone_zero x cap w).mono ?_
    rintro e w' ⟨rfl, h1, h2⟩
    exact ⟨_, rfl, h1, h2⟩
  · refine (clone_some b off zs.length cap zs w rfl hlt hc hl).mono ?_
    rintro e w' ⟨rfl, h1, h2⟩
    exact ⟨_, rfl, h1, h2⟩

/-- The builder behind its end: no byte written, or one span over l. -/
def FIN (B t c : Nat) (v sp : Value) (pre : List Value) (l : List UInt8) (w : World) : Prop :=
  (l = [] ∧ sp = .slice none 0 0 ∧ ∃ st, TB B t c v sp false st pre w) ∨
  (l ≠ [] ∧ TS B t c v sp false (pre.length : Nat) (pre ++ Lib.byteCells l ++ [.int .u8 10]) 1 [.int .i64 (pre.length : Nat), .int .i64 (pre ++ Lib.byteCells l).length] w)

theorem zend_any (B t c : Nat) (pre : List Value) (s : ByteArray) (q : Bool) (w0 w : World) (h : WU B t c (.slice none 0 0) pre s q w0 s.size w) (hb : pre.length ≤ 524288) (hs : s.size ≤ 524288) :
    Calls Try.prog 27 #[.pointer (some ⟨t, 0, none⟩)] w fun e w' => e = .returned (.tuple #[]) ∧ (∃ v sp, FIN B t c v sp pre (unesc q s.data.toList) w') ∧ Below B w0 w' := by
  obtain ⟨v, op, st, acc, hT, hB, hst, hacc, hal, h0, h1⟩ := h
  have ea : acc = unesc q s.data.toList := by
    rw [List.drop_of_length_le (by simp)] at hacc
    simpa [unesc] using hacc
  have hul := unesc_len q s.data.toList
  simp only [Array.length_toList] at hul
  have hul' : (unesc q s.data.toList).length ≤ s.size := hul
  by_cases hz : s.size = 0
  · have ho := h0 hz
    subst ho
    have hl0 : s.data.toList = [] := List.eq_nil_of_length_eq_zero (by simpa using hz)
    have he : unesc q s.data.toList = [] := by rw [hl0]; rfl
    refine (zend_shut B t c v _ st _ w hT).mono ?_
    rintro e w' ⟨rfl, rfl⟩
    refine ⟨rfl, ⟨v, _, .inl ⟨he, rfl, st, ?_⟩⟩, hB⟩
    rw [ea, he] at hT
    simpa [Lib.byteCells] using hT
  · have ho := h1 (by omega)
    subst ho
    have hst' : st = pre.length := by simpa [stAt] using hst
    have hne : unesc q s.data.toList ≠ [] := unesc_ne q _ (fun e => hz (by have := congrArg List.length e; simpa using this))
    subst ea
    refine (zend_open B t c v st _ w hT (by simp [Lib.byteCells_length]; omega)).mono ?_
    rintro e w' ⟨rfl, ⟨v', sp', hTS⟩, hb2⟩
    refine ⟨rfl, ⟨v', sp', .inr ⟨hne, ?_⟩⟩, hB.trans hb2⟩
    rw [hst'] at hTS
    exact hTS

theorem ztext_any (B t c : Nat) (v sp : Value) (pre : List Value) (l : List UInt8) (w : World) (h : FIN B t c v sp pre l w) (hb : pre.length + l.length ≤ 2097152) :
    Calls Try.prog 28 #[.pointer (some ⟨t, 0, none⟩)] w fun e w' => e = .returned (.string ⟨l.toArray⟩) ∧ Below w.heap.size w w' := by
  rcases h with ⟨rfl, rfl, st, hT⟩ | ⟨hl, hT⟩
  · exact ztext_none B t c v false st pre w hT
  · exact ztext_one B t c v sp false pre l pre.length w rfl hT hl hb

theorem TB.below {B t c : Nat} {v sp : Value} {op : Bool} {st : Int} {bs : List Value} {w w' : World} (h : TB B t c v sp op st bs w) (hb : Below w.heap.size w w') : TB B t c v sp op st bs w' := by
  have htt := h.ltt
  have hcc := h.ltc
  obtain ⟨h1, h2, h3, h4, ⟨cs, h5, h6⟩, h7⟩ := h
  exact ⟨h1, h2, h3, (hb.block t htt).trans h4, ⟨cs, (hb.block c hcc).trans h5, h6⟩, own_below h7 hb⟩

theorem FIN.below {B t c : Nat} {v sp : Value} {pre : List Value} {l : List UInt8} {w w' : World} (h : FIN B t c v sp pre l w) (hb : Below w.heap.size w w') : FIN B t c v sp pre l w' := by
  rcases h with ⟨rfl, rfl, st, hT⟩ | ⟨hl, hT, hS⟩
  · exact .inl ⟨rfl, rfl, st, hT.below hb⟩
  · exact .inr ⟨hl, hT.below hb, own_below hS hb⟩

/-- What the builder's bytes are behind its end. -/
def outB (pre : List Value) (l : List UInt8) : List Value := if l = [] then pre else pre ++ Lib.byteCells l ++ [.int .u8 10]

theorem FIN.tb {B t c : Nat} {v sp : Value} {pre : List Value} {l : List UInt8} {w : World} (h : FIN B t c v sp pre l w) : ∃ st, TB B t c v sp false st (outB pre l) w := by
  rcases h with ⟨rfl, rfl, st, hT⟩ | ⟨hl, hT, hS⟩
  · exact ⟨st, hT⟩
  · exact ⟨_, by unfold outB; rw [if_neg hl]; exact hT⟩

theorem FIN.spans {B t c : Nat} {v sp : Value} {pre : List Value} {l : List UInt8} {w : World} (h : FIN B t c v sp pre l w) : ∃ a cs, sp = .slice a (if l = [] then 0 else 1) cs := by
  rcases h with ⟨rfl, rfl, st, hT⟩ | ⟨hl, hT, hS⟩
  · exact ⟨none, 0, by simp⟩
  · obtain ⟨g, cap, hv, _⟩ := hS.form (by omega)
    exact ⟨_, cap, by rw [if_neg hl]; exact hv⟩

end Go.Proofs.Qxb6613957a
