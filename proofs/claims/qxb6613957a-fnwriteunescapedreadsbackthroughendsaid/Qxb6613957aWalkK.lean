import Derived.Test.Qxb6613957aWalkJ
import Derived.Laws.IdiomStrings
import Derived.Laws.BytesArg
set_option linter.unusedSimpArgs false
set_option linter.unusedVariables false
namespace Go.Proofs.Qxb6613957a
open Go.RowKit

/-- 'string(v)' of a row that the call owns. -/
theorem conv_own {B : Nat} {v : Value} {l : List UInt8} {w : World} (h : w.ownsRow B 5 1 v l.length (Lib.byteCells l)) :
    (convert 27 9 v).run Try.prog w = .ok (.string ⟨l.toArray⟩) w := by
  rcases h.2 with ⟨rfl, h0⟩ | ⟨g, cap, cur, rfl, _, hg, _⟩
  · have : l = [] := List.eq_nil_of_length_eq_zero h0
    subst this
    exact run_convert_bytes_nil w 27 5 Try.underlying27 Try.underlying5 0 0 9 Try.underlying9
  · refine run_convert_bytes_back w 27 9 5 ⟨g, 0, none⟩ cap l Try.underlying27 Try.underlying5 Try.underlying9 ?_
    intro j hj
    exact h.cells (g := g) rfl j _ (by simp [Lib.byteCells, hj])

/-- zzSameBytes of two rows that the call owns, of the same bytes. -/
theorem same_own (B0 B1 : Nat) (v0 v1 : Value) (ys : List Int) (w : World) (h0 : w.ownsRow B0 5 1 v0 ys.length (ys.map (Value.int .u8))) (h1 : w.ownsRow B1 5 1 v1 ys.length (ys.map (Value.int .u8))) (hl : ys.length ≤ 4194304) :
    Calls Try.prog 21 #[v0, v1] w fun e w' => e = .returned (.bool true) ∧ ∃ n, w' = w.drewN n := by
  by_cases hz : ys.length = 0
  · have form : ∀ {B : Nat} {v : Value}, w.ownsRow B 5 1 v ys.length (ys.map (Value.int .u8)) → ∃ a c, v = .slice a 0 c := by
      intro B v h
      rcases h.2 with ⟨hv, _⟩ | ⟨g, cap, cur, hv, _⟩
      · exact ⟨_, _, hv⟩
      · exact ⟨_, cap, by rw [hz] at hv; exact hv⟩
    obtain ⟨a0, c0, rfl⟩ := form h0
    obtain ⟨a1, c1, rfl⟩ := form h1
    exact same_zero a0 a1 c0 c1 w
  · obtain ⟨g0, c0, rfl, _, _⟩ := h0.form (by omega)
    obtain ⟨g1, c1, rfl, _, _⟩ := h1.form (by omega)
    refine same_some g0 0 g1 0 ys.length c0 c1 ys w hl rfl ?_ ?_
    · intro i hi; rw [Nat.zero_add, h0.cellAt i (by omega)]; simp [List.getD, hi]
    · intro i hi; rw [Nat.zero_add, h1.cellAt i (by omega)]; simp [List.getD, hi]

/-- The bytes that are wanted, as numbers. -/
def wantI (zs : List Int) (l : List UInt8) : List Int := if l = [] then zs else zs ++ l.map (fun b => (b.toNat : Int)) ++ [10]

theorem wantI_out (zs : List Int) (l : List UInt8) : outB (zs.map (Value.int .u8)) l = (wantI zs l).map (Value.int .u8) := by
  unfold outB wantI
  split <;> simp [Lib.byteCells, Function.comp_def]

theorem wantI_len (zs : List Int) (l : List UInt8) : (wantI zs l).length ≤ zs.length + l.length + 1 := by
  unfold wantI
  split
  · omega
  · simp; omega

theorem TB.wants {B t c : Nat} {v sp : Value} {op : Bool} {st : Int} {zs : List Int} {l : List UInt8} {w : World} (h : TB B t c v sp op st (outB (zs.map (Value.int .u8)) l) w) :
    w.ownsRow B 5 1 v (wantI zs l).length ((wantI zs l).map (Value.int .u8)) := by
  have := h.own
  rw [wantI_out] at this
  simpa using this

theorem want_own {zs : List Int} {l : List UInt8} {w : World} {B : Nat} {v : Value} (hl : l ≠ [])
    (h : w.ownsRow B 5 1 v (zs.length + l.length + 1) (zs.map (Value.int .u8) ++ (Lib.byteCells l ++ [.int .u8 10]))) :
    w.ownsRow B 5 1 v (wantI zs l).length ((wantI zs l).map (Value.int .u8)) := by
  have e : (wantI zs l).map (Value.int .u8) = zs.map (Value.int .u8) ++ (Lib.byteCells l ++ [.int .u8 10]) := by
    rw [← wantI_out]; unfold outB; rw [if_neg hl, List.append_assoc]
  have e2 : (wantI zs l).length = zs.length + l.length + 1 := by
    unfold wantI; rw [if_neg hl]; simp; omega
  rw [e, e2]; exact h

set_option maxRecDepth 100000 in
set_option maxHeartbeats 2000000 in
theorem main_core (a0 : Option Addr) (n cap : Nat) (zs : List Int) (s : ByteArray) (q : Bool) (w : World) (hsrc : Src (.slice a0 n cap) zs w) (hn : zs.length = n) (hn9 : n ≤ 524288) (hs : s.size ≤ 524288) :
    Calls Try.prog 7 #[.slice a0 n cap, .string s, .bool q] w fun e w' => e = .returned (.bool true) ∧ Below w.heap.size w w' := by
  obtain ⟨i0, hi, hz0, hz1, hz2⟩ := info_parts info5
  have hzl : zs.length ≤ 524288 := by omega
  have hul := unesc_len q s.data.toList
  have hul' : (unesc q s.data.toList).length ≤ 524288 := Nat.le_trans hul (by simpa using hs)
  have hvl := unesc_len (!q) s.data.toList
  have hvl' : (unesc (!q) s.data.toList).length ≤ 524288 := Nat.le_trans hvl (by simpa using hs)
  clear hul hvl hn
  have hP : (zs.map (Value.int .u8)).length = zs.length := by simp
  have HP : Hid ((zs.map (Value.int .u8)).length = zs.length) := hP
  clear hP
  go_enter Try.func7, Try.ntmps7
  go_wp2_with (go_at_call 26; refine (bytes_fit a0 n cap s q _ (by omega)).mono ?_; rintro e wx ⟨rfl, hw⟩; obtain rfl := hw.symm)
  refine (clone_any _ zs w hsrc (by omega)).mono ?_
  rintro e w1 ⟨vp, rfl, op, b1⟩
  have sp1 : Src vp zs w1 := own_src op
  have b01 : Below w.heap.size w w1 := b1
  clear hsrc
  go_wp2_with fail
  refine (model_any s q w1 hs).mono ?_
  rintro e w2 ⟨vm, rfl, om, b2⟩
  have b02 : Below w.heap.size w w2 := b01.trans (b2.mono b01.size)
  have sp2 : Src vp zs w2 := sp1.below b2
  clear b1 b2 op b01 sp1
  go_wp2_with fail
  refine (clone_any _ zs w2 sp2 (by omega)).mono ?_
  rintro e w3 ⟨vb, rfl, ob, b3⟩
  go_wp2_with fail
  refine (znew w2.heap.size vb (zs.map (Value.int .u8)) w3 (by rw [HP.out]; exact ob) b3.size).mono ?_
  rintro e w4 ⟨rfl, tb4, b4⟩
  have b24 : Below w2.heap.size w2 w4 := b3.trans (b4.mono b3.size)
  clear b3 b4 ob
  go_wp2_with fail
  refine (zwu_any w2.heap.size _ _ vb _ 0 (zs.map (Value.int .u8)) s q w4 tb4 (by rw [HP.out]; omega) hs).mono ?_
  rintro e w5 ⟨rfl, wu5⟩
  clear tb4
  go_wp2_with fail
  refine (zend_any w2.heap.size _ _ (zs.map (Value.int .u8)) s q w4 w5 wu5 (by rw [HP.out]; omega) hs).mono ?_
  rintro e w6 ⟨rfl, ⟨v6, s6, fin6⟩, b46⟩
  have b26 : Below w2.heap.size w2 w6 := b24.trans b46
  clear b24 b46 wu5
  go_wp2_with fail
  refine (ztext_any w2.heap.size _ _ v6 s6 (zs.map (Value.int .u8)) (unesc q s.data.toList) w6 fin6 (by rw [HP.out]; omega)).mono ?_
  rintro e w7 ⟨rfl, b67⟩
  have b27 : Below w2.heap.size w2 w7 := b26.trans (b67.mono b26.size)
  have b07 : Below w.heap.size w w7 := b02.trans (b27.mono b02.size)
  have sp7 : Src vp zs w7 := sp2.below b27
  have fin7 := fin6.below b67
  have om7 := own_below om b27
  have hconv := conv_own om7
  clear b02 b26 b67 om sp2 fin6
  go_wp2_with fail
  refine (clone_any _ zs w7 sp7 (by omega)).mono ?_
  rintro e w8 ⟨vw, rfl, ow8, b78⟩
  have om8 := own_below om7 b78
  have fin8 := fin7.below b78
  have sp8 := sp7.below b78
  have b08 : Below w.heap.size w w8 := b07.trans (b78.mono b07.size)
  have lt7 : ∀ k, vw.ownBlock = some k → w7.heap.size ≤ k := fun k hk => (ow8.lt k hk).1
  obtain ⟨st0, tb7⟩ := fin7.tb
  have ltt := tb7.ltt
  have ltc := tb7.ltc
  have ltv := tb7.own.lt
  clear om7 fin7 hconv tb7
  obtain ⟨asp, csp, hsp⟩ := fin8.spans
  by_cases hz : s.size = 0
  · have hl0 : unesc q s.data.toList = [] := by rw [List.eq_nil_of_length_eq_zero (l := s.data.toList) (by simpa using hz)]; rfl
    rw [hl0, if_pos rfl] at hsp
    subst hsp
    obtain ⟨st7, tbq⟩ := fin8.tb
    have owq : w8.ownsRow w7.heap.size 5 1 vw (wantI zs (unesc q s.data.toList)).length ((wantI zs (unesc q s.data.toList)).map (Value.int .u8)) := by
      unfold wantI; rw [if_pos hl0]; exact ow8
    have spq := sp8
    have b0q := b08
    have HL : Hid (unesc q s.data.toList = []) := hl0
    clear hl0 fin8 om8 ow8 lt7 ltt ltc ltv sp8 b08 b27 b78
    go_wp2_with fail
    refine (zbytes _ _ _ v6 _ false st7 _ w8 tbq).mono ?_
    rintro e wy ⟨rfl, hwy⟩
    obtain rfl := hwy
    go_wp2_with fail
    refine (same_own _ _ v6 vw (wantI zs (unesc q s.data.toList)) w8 tbq.wants owq (by have := wantI_len zs (unesc q s.data.toList); omega)).mono ?_
    rintro e wy ⟨rfl, nd, hwy⟩
    obtain rfl := hwy.symm
    have tbr := tbq.drewN nd
    have spr : Src vp zs (w8.drewN nd) := spq.below (below_drewN (Below.refl _ _) nd)
    have b0r : Below w.heap.size w (w8.drewN nd) := below_drewN b0q nd
    clear tbq owq spq b0q
    go_wp2_with fail
    refine (zcount _ _ _ _ _ _ v6 false st7 _ _ tbr).mono ?_
    rintro e wy ⟨rfl, hwy⟩
    obtain rfl := hwy
    go_wp2_with fail
    refine (zopen _ _ _ v6 _ false st7 _ _ tbr).mono ?_
    rintro e wy ⟨rfl, hwy⟩
    obtain rfl := hwy
    go_wp2_with fail
    refine (clone_any _ zs _ spr (by omega)).mono ?_
    rintro e wa ⟨va, rfl, oa, ba⟩
    have b0a : Below w.heap.size w wa := b0r.trans (ba.mono b0r.size)
    have hba := ba.size
    have hb0 := b0r.size
    clear spr tbr b0r ba
    go_wp2_with fail
    refine (znew _ va (zs.map (Value.int .u8)) wa (by rw [HP.out]; exact oa) hba).mono ?_
    rintro e wb ⟨rfl, tbb, bb⟩
    have b0b : Below w.heap.size w wb := b0a.trans (bb.mono b0a.size)
    clear oa b0a bb
    go_wp2_with fail
    refine (zwu_any _ _ _ va _ 0 (zs.map (Value.int .u8)) s (!q) wb tbb (by rw [HP.out]; omega) hs).mono ?_
    rintro e wc ⟨rfl, wuc⟩
    clear tbb
    go_wp2_with fail
    refine (zend_any _ _ _ (zs.map (Value.int .u8)) s (!q) wb wc wuc (by rw [HP.out]; omega) hs).mono ?_
    rintro e wd ⟨rfl, ⟨vd, sd, find⟩, bbd⟩
    have b0d : Below w.heap.size w wd := b0b.trans (bbd.mono hb0)
    clear wuc b0b bbd
    go_wp2_with fail
    refine (ztext_any _ _ _ vd sd (zs.map (Value.int .u8)) (unesc (!q) s.data.toList) wd find (by rw [HP.out]; omega)).mono ?_
    rintro e wf ⟨rfl, bdf⟩
    have b0f : Below w.heap.size w wf := b0d.trans (bdf.mono b0d.size)
    have hle := unesc_le s.data.toList
    clear find b0d bdf
    cases q
    all_goals
      go_wp2
      go_ret
      exact ⟨rfl, b0f⟩
  · have hne : unesc q s.data.toList ≠ [] := unesc_ne q _ (fun e => hz (by have := congrArg List.length e; simpa using this))
    have hm0 : 0 < (unesc q s.data.toList).length := by
      rcases h : unesc q s.data.toList with _ | ⟨a, l⟩
      · exact absurd h hne
      · simp
    rw [if_neg hne] at hsp
    subst hsp
    obtain ⟨st7, tb8⟩ := fin8.tb
    have HNE : Hid (unesc q s.data.toList ≠ []) := hne
    clear hne fin8
    obtain ⟨gm, cm, hvm, _, hgm⟩ := om8.form hm0
    subst hvm
    have HMc : Hid (∀ j u, (Lib.byteCells (unesc q s.data.toList))[j]? = some u → w8.cell? ((⟨gm, 0, none⟩ : Addr).add j) = some u) := om8.cells rfl
    have HM1 : Hid (∀ u ∈ Lib.byteCells (unesc q s.data.toList), u.oneCell' = true) := fun u hu => by
      simp only [Lib.byteCells, List.mem_map] at hu
      obtain ⟨b, _, rfl⟩ := hu
      rfl
    have HMl : Hid ((Lib.byteCells (unesc q s.data.toList)).length = (unesc q s.data.toList).length * 1) := by
      show (Lib.byteCells (unesc q s.data.toList)).length = (unesc q s.data.toList).length * 1
      rw [Lib.byteCells_length]; omega
    go_wp2_with (at_builtin; refine wpList_append_own _ rfl (.tmp 50) (.tmp 51) 27 rfl w7.heap.size 5 i0 (.int .u8 0) 1 1 Try.underlying27 hi hz0 hz1 hz2 rfl (by decide) _ _ _ rfl ow8 ⟨gm, 0, none⟩ _ _ (Lib.byteCells (unesc q s.data.toList)) rfl HMl.out HMc.out HM1.out ?c3 ?c4 ?c5 ?_)
    case c3 => unfold maxLen; omega
    case c4 => omega
    case c5 => exact b78.size
    intro v9 w9 ow9 g89 _
    have ne8t : some (w3.heap.size + 1) ≠ vw.ownBlock := fun e => by have := lt7 _ e.symm; omega
    have ne8c : some w3.heap.size ≠ vw.ownBlock := fun e => by have := lt7 _ e.symm; omega
    have ne8v : v6.ownBlock = none ∨ v6.ownBlock ≠ vw.ownBlock := by
      cases hv6 : v6.ownBlock with
      | none => exact .inl rfl
      | some k => exact .inr (fun e => by have := lt7 _ e.symm; have := (ltv k hv6).2; omega)
    have tb9 := tb8.kept g89 ne8t ne8c ne8v
    have b79 : Below w7.heap.size w7 w9 := b78.grown g89 b78.size lt7
    have lt9 : ∀ k, v9.ownBlock = some k → w7.heap.size ≤ k := fun k hk => (ow9.lt k hk).1
    clear ow8 g89 tb8 HMc om8 b78 lt7 ne8t ne8c ne8v hgm
    go_wp2_with (at_builtin; refine wpList_append_own _ rfl (.tmp 53) (.tmp 54) 27 rfl w7.heap.size 5 i0 (.int .u8 0) 1 1 Try.underlying27 hi hz0 hz1 hz2 rfl (by decide) _ _ _ rfl (ow9.alloc _) ⟨w9.heap.size, 0, none⟩ 1 1 [.int .u8 10] rfl rfl (one_new _ _ _) (one_cell _ _) ?d3 ?d4 ?d5 ?_)
    case d3 => unfold maxLen; omega
    case d4 => omega
    case d5 => have := b79.size; simp; omega
    intro vq wq owq' g9q _
    have ne9t : some (w3.heap.size + 1) ≠ v9.ownBlock := fun e => by have := lt9 _ e.symm; omega
    have ne9c : some w3.heap.size ≠ v9.ownBlock := fun e => by have := lt9 _ e.symm; omega
    have ne9v : v6.ownBlock = none ∨ v6.ownBlock ≠ v9.ownBlock := by
      cases hv6 : v6.ownBlock with
      | none => exact .inl rfl
      | some k => exact .inr (fun e => by have := lt9 _ e.symm; have := (ltv k hv6).2; omega)
    have tbq := (tb9.kept (World.grownBy_alloc w9 (.cells #[.int .u8 10] 5) v9.ownBlock) ne9t ne9c ne9v).kept g9q ne9t ne9c ne9v
    have b7q : Below w7.heap.size w7 wq := (b79.alloc b79.size _).grown g9q (by have := b79.size; simp; omega) lt9
    have owq : wq.ownsRow w7.heap.size 5 1 vq (wantI zs (unesc q s.data.toList)).length ((wantI zs (unesc q s.data.toList)).map (Value.int .u8)) := want_own HNE.out owq'
    have spq : Src vp zs wq := sp7.below b7q
    have b0q : Below w.heap.size w wq := b07.trans (b7q.mono b07.size)
    clear ow9 owq' g9q tb9 b79 lt9 ne9t ne9c ne9v b7q sp8 b08 sp7 b07 HM1 HMl
    go_wp2_with fail
    refine (zbytes _ _ _ v6 _ false st7 _ wq tbq).mono ?_
    rintro e wy ⟨rfl, hwy⟩
    obtain rfl := hwy
    go_wp2_with fail
    refine (same_own _ _ v6 vq (wantI zs (unesc q s.data.toList)) wq tbq.wants owq (by have := wantI_len zs (unesc q s.data.toList); omega)).mono ?_
    rintro e wy ⟨rfl, nd, hwy⟩
    obtain rfl := hwy.symm
    have tbr := tbq.drewN nd
    have spr : Src vp zs (wq.drewN nd) := spq.below (below_drewN (Below.refl _ _) nd)
    have b0r : Below w.heap.size w (wq.drewN nd) := below_drewN b0q nd
    clear tbq owq spq b0q
    go_wp2_with fail
    refine (zcount _ _ _ _ _ _ v6 false st7 _ _ tbr).mono ?_
    rintro e wy ⟨rfl, hwy⟩
    obtain rfl := hwy
    go_wp2_with fail
    refine (zopen _ _ _ v6 _ false st7 _ _ tbr).mono ?_
    rintro e wy ⟨rfl, hwy⟩
    obtain rfl := hwy
    go_wp2_with fail
    refine (clone_any _ zs _ spr (by omega)).mono ?_
    rintro e wa ⟨va, rfl, oa, ba⟩
    have b0a : Below w.heap.size w wa := b0r.trans (ba.mono b0r.size)
    have hba := ba.size
    have hb0 := b0r.size
    clear spr tbr b0r ba
    go_wp2_with fail
    refine (znew _ va (zs.map (Value.int .u8)) wa (by rw [HP.out]; exact oa) hba).mono ?_
    rintro e wb ⟨rfl, tbb, bb⟩
    have b0b : Below w.heap.size w wb := b0a.trans (bb.mono b0a.size)
    clear oa b0a bb
    go_wp2_with fail
    refine (zwu_any _ _ _ va _ 0 (zs.map (Value.int .u8)) s (!q) wb tbb (by rw [HP.out]; omega) hs).mono ?_
    rintro e wc ⟨rfl, wuc⟩
    clear tbb
    go_wp2_with fail
    refine (zend_any _ _ _ (zs.map (Value.int .u8)) s (!q) wb wc wuc (by rw [HP.out]; omega) hs).mono ?_
    rintro e wd ⟨rfl, ⟨vd, sd, find⟩, bbd⟩
    have b0d : Below w.heap.size w wd := b0b.trans (bbd.mono hb0)
    clear wuc b0b bbd
    go_wp2_with fail
    refine (ztext_any _ _ _ vd sd (zs.map (Value.int .u8)) (unesc (!q) s.data.toList) wd find (by rw [HP.out]; omega)).mono ?_
    rintro e wf ⟨rfl, bdf⟩
    have b0f : Below w.heap.size w wf := b0d.trans (bdf.mono b0d.size)
    have hle := unesc_le s.data.toList
    clear find b0d bdf
    cases q
    all_goals
      go_wp2
      go_ret
      exact ⟨rfl, b0f⟩

end Go.Proofs.Qxb6613957a
