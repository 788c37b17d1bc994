/-
  THE PLAIN LAW: a field requirement's value unescaped, byte by byte and by runs of backslashes; and that it undoes escaping. No Go in sight.
-/
import Derived.KernelRfl
set_option linter.unusedSimpArgs false
set_option linter.unusedVariables false
namespace Go.Proofs.Qxb6600459a

def esB (c : UInt8) : Bool := c == 92 || c == 44 || c == 61

/-- Unescaping, byte by byte; none: refused. -/
def unf : List UInt8 → Option (List UInt8)
  | [] => some []
  | [c] => if c == 92 then none else some [c]
  | a :: b :: r => if a == 92 then (if esB b then (unf r).map (b :: ·) else none) else (unf (b :: r)).map (a :: ·)

theorem unf_plain (c : UInt8) (r : List UInt8) (h : c ≠ 92) : unf (c :: r) = (unf r).map (c :: ·) := by
  cases r with
  | nil => simp [unf, h]
  | cons b r => simp [unf, h]

theorem unf_end : unf [92] = none := rfl

theorem unf_esc (b : UInt8) (r : List UInt8) (h : esB b = true) : unf (92 :: b :: r) = (unf r).map (b :: ·) := by
  simp [unf, h]

theorem unf_bad (b : UInt8) (r : List UInt8) (h : esB b = false) : unf (92 :: b :: r) = none := by
  simp [unf, h]

theorem map_map_app (x : Option (List UInt8)) (a b : List UInt8) : (x.map (b ++ ·)).map (a ++ ·) = x.map ((a ++ b) ++ ·) := by
  cases x <;> simp

theorem unf_pairs (k : Nat) (r : List UInt8) : unf (List.replicate (2 * k) 92 ++ r) = (unf r).map (List.replicate k 92 ++ ·) := by
  induction k with
  | zero => simp
  | succ k ih =>
    have e : List.replicate (2 * (k + 1)) (92 : UInt8) ++ r = 92 :: 92 :: (List.replicate (2 * k) 92 ++ r) := by
      rw [show 2 * (k + 1) = 2 * k + 1 + 1 by omega, List.replicate_succ, List.replicate_succ]; rfl
    rw [e, unf_esc 92 _ (by decide), ih]
    cases unf r <;> simp [List.replicate_succ]

/-- Does an odd backslash ahead of 'r' refuse the value? -/
def bad : List UInt8 → Bool
  | [] => true
  | b :: _ => (b != 44) && (b != 61)

theorem unf_odd (r : List UInt8) (h : ∀ b t, r = b :: t → b ≠ 92) : unf (92 :: r) = if bad r then none else unf r := by
  cases r with
  | nil => rfl
  | cons b t =>
    have hb := h b t rfl
    cases hs : bad (b :: t) with
    | true =>
      have : esB b = false := by
        simp only [bad, Bool.and_eq_true, bne_iff_ne] at hs
        simp [esB, hb, hs.1, hs.2]
      rw [unf_bad b t this]; simp
    | false =>
      have : esB b = true := by
        simp only [bad, Bool.and_eq_false_iff, bne_eq_false_iff_eq] at hs
        rcases hs with rfl | rfl <;> decide
      rw [unf_esc b t this, unf_plain b t hb]; simp

/-- A whole run. -/
theorem unf_run (n : Nat) (r : List UInt8) (h : ∀ b t, r = b :: t → b ≠ 92) :
    unf (List.replicate n 92 ++ r) = if n % 2 = 1 ∧ bad r = true then none else (unf r).map (List.replicate (n / 2) 92 ++ ·) := by
  have e : n = 2 * (n / 2) + n % 2 := by omega
  rcases Nat.mod_two_eq_zero_or_one n with h0 | h1
  · rw [show List.replicate n (92 : UInt8) = List.replicate (2 * (n / 2)) 92 by congr 1; omega, unf_pairs]
    simp [h0]
  · rw [show List.replicate n (92 : UInt8) ++ r = List.replicate (2 * (n / 2)) 92 ++ (92 :: r) by
      conv => lhs; rw [e, h1]
      rw [List.replicate_succ']; simp, unf_pairs, unf_odd r h]
    cases hs : bad r <;> simp [h1]

theorem drop_run (L : List UInt8) (k n : Nat) (hr : ∀ t, k ≤ t → t < k + n → L[t]? = some 92) : L.drop k = List.replicate n 92 ++ L.drop (k + n) := by
  induction n generalizing k with
  | zero => simp
  | succ n ih =>
    have h0 := hr k (Nat.le_refl _) (by omega)
    obtain ⟨hk, hv⟩ := List.getElem?_eq_some_iff.1 h0
    rw [List.drop_eq_getElem_cons hk, hv, ih (k + 1) (fun t h1 h2 => hr t (by omega) (by omega)), List.replicate_succ, show k + 1 + n = k + (n + 1) by omega]
    rfl

theorem rest_ne (L : List UInt8) (j : Nat) (hend : ∀ b, L[j]? = some b → b ≠ 92) : ∀ b t, L.drop j = b :: t → b ≠ 92 := by
  intro b t e
  apply hend b
  have := congrArg (fun l => l[0]?) e
  simpa using this

/-- A run that goes through. -/
theorem run_ok (L : List UInt8) (k n : Nat) (acc : List UInt8) (hr : ∀ t, k ≤ t → t < k + n → L[t]? = some 92) (hend : ∀ b, L[k + n]? = some b → b ≠ 92)
    (HI : unf L = (unf (L.drop k)).map (acc ++ ·)) (hn : ¬ (n % 2 = 1 ∧ bad (L.drop (k + n)) = true)) :
    unf L = (unf (L.drop (k + n))).map ((acc ++ List.replicate (n / 2) 92) ++ ·) := by
  rw [HI, drop_run L k n hr, unf_run n _ (rest_ne L _ hend), if_neg hn, map_map_app]

/-- A run that refuses. -/
theorem run_bad (L : List UInt8) (k n : Nat) (acc : List UInt8) (hr : ∀ t, k ≤ t → t < k + n → L[t]? = some 92) (hend : ∀ b, L[k + n]? = some b → b ≠ 92)
    (HI : unf L = (unf (L.drop k)).map (acc ++ ·)) (hn : n % 2 = 1 ∧ bad (L.drop (k + n)) = true) : unf L = none := by
  rw [HI, drop_run L k n hr, unf_run n _ (rest_ne L _ hend), if_pos hn]; rfl

theorem bad_end (L : List UInt8) (j : Nat) (h : L.length ≤ j) : bad (L.drop j) = true := by
  rw [List.drop_of_length_le h]; rfl

theorem bad_at (L : List UInt8) (j : Nat) (b : UInt8) (h : L[j]? = some b) : bad (L.drop j) = ((b != 44) && (b != 61)) := by
  obtain ⟨hk, hv⟩ := List.getElem?_eq_some_iff.1 h
  rw [List.drop_eq_getElem_cons hk, hv]; rfl

/-- Escaping. -/
def escL : List UInt8 → List UInt8
  | [] => []
  | c :: r => (if esB c then [92, c] else [c]) ++ escL r

theorem escL_append (a b : List UInt8) : escL (a ++ b) = escL a ++ escL b := by
  induction a with
  | nil => rfl
  | cons c a ih => simp [escL, ih]

theorem escL_snoc (a : List UInt8) (c : UInt8) : escL (a ++ [c]) = escL a ++ (if esB c then [92, c] else [c]) := by
  rw [escL_append]; simp [escL]

theorem escL_len (a : List UInt8) : (escL a).length ≤ 2 * a.length := by
  induction a with
  | nil => simp [escL]
  | cons c a ih => simp only [escL, List.length_append, List.length_cons]; split <;> simp <;> omega

theorem unf_escL (l : List UInt8) : unf (escL l) = some l := by
  induction l with
  | nil => rfl
  | cons c l ih =>
    by_cases h : esB c = true
    · have e : escL (c :: l) = 92 :: c :: escL l := by simp [escL, h]
      rw [e, unf_esc c _ h, ih]; rfl
    · have h' : esB c = false := by simpa using h
      have e : escL (c :: l) = c :: escL l := by simp [escL, h']
      have hc : c ≠ 92 := by intro e; subst e; revert h'; decide
      rw [e, unf_plain c _ hc, ih]; rfl

end Go.Proofs.Qxb6600459a
