/-
  THE PLAIN LAW: unescaping a literal, byte by byte and by runs of backslashes. No Go in sight.
-/
import Derived.KernelRfl
set_option linter.unusedSimpArgs false
set_option linter.unusedVariables false
namespace Go.Proofs.Qxb6613957a

def isSp (c : UInt8) : Bool := c == 36 || c == 96 || c == 34 || c == 92

/-- Unescaping, byte by byte: a backslash goes out where it escapes the byte behind it. -/
def unesc (q : Bool) : List UInt8 → List UInt8
  | [] => []
  | [c] => [c]
  | a :: b :: r => if a == 92 && (!q || isSp b) then b :: unesc q r else a :: unesc q (b :: r)

theorem unesc_plain (q : Bool) (c : UInt8) (r : List UInt8) (h : c ≠ 92) : unesc q (c :: r) = c :: unesc q r := by
  cases r with
  | nil => simp [unesc]
  | cons b r => simp [unesc, h]

theorem unesc_esc (q : Bool) (b : UInt8) (r : List UInt8) (h : (!q || isSp b) = true) : unesc q (92 :: b :: r) = b :: unesc q r := by
  simp [unesc, h]

theorem unesc_stays (q : Bool) (b : UInt8) (r : List UInt8) (h : (!q || isSp b) = false) : unesc q (92 :: b :: r) = 92 :: unesc q (b :: r) := by
  simp [unesc, h]

theorem unesc_pair (q : Bool) (r : List UInt8) : unesc q (92 :: 92 :: r) = 92 :: unesc q r :=
  unesc_esc q 92 r (by simp [isSp])

theorem unesc_ind {P : List UInt8 → Prop} (h0 : P []) (h1 : ∀ c, P [c]) (h2 : ∀ a b r, P r → P (b :: r) → P (a :: b :: r)) : ∀ l, P l
  | [] => h0
  | [c] => h1 c
  | a :: b :: r => h2 a b r (unesc_ind h0 h1 h2 r) (unesc_ind h0 h1 h2 (b :: r))

theorem unesc_len (q : Bool) (l : List UInt8) : (unesc q l).length ≤ l.length := by
  refine unesc_ind (P := fun l => (unesc q l).length ≤ l.length) (by simp [unesc]) (by simp [unesc]) ?_ l
  intro a b r hr hb
  simp only [unesc]
  split
  · simp only [List.length_cons]; omega
  · simp only [List.length_cons] at hb ⊢; omega

theorem unesc_ne (q : Bool) (l : List UInt8) (h : l ≠ []) : unesc q l ≠ [] := by
  match l, h with
  | [c], _ => simp [unesc]
  | a :: b :: r, _ => simp only [unesc]; split <;> simp

/-- Outside quotes never longer than inside. -/
theorem unesc_le (l : List UInt8) : (unesc false l).length ≤ (unesc true l).length := by
  have key : ∀ l, (unesc false l).length ≤ (unesc true l).length ∧ (∀ c, c ≠ 92 → (unesc false (c :: l)).length ≤ (unesc true (c :: l)).length) := by
    intro l
    have hc : ∀ l, (unesc false l).length ≤ (unesc true l).length → ∀ c, c ≠ 92 → (unesc false (c :: l)).length ≤ (unesc true (c :: l)).length := by
      intro l h c hc
      rw [unesc_plain _ _ _ hc, unesc_plain _ _ _ hc]
      simpa using h
    refine unesc_ind (P := fun l => (unesc false l).length ≤ (unesc true l).length ∧ (∀ c, c ≠ 92 → (unesc false (c :: l)).length ≤ (unesc true (c :: l)).length)) ⟨by simp [unesc], hc _ (by simp [unesc])⟩ (fun c => ⟨by simp [unesc], hc _ (by simp [unesc])⟩) ?_ l
    intro a b r hr hb
    have g : (unesc false (a :: b :: r)).length ≤ (unesc true (a :: b :: r)).length := by
      by_cases ha : a = 92
      · subst ha
        rw [unesc_esc false b r (by simp)]
        by_cases hs : isSp b = true
        · rw [unesc_esc true b r (by simp [hs])]
          simpa using hr.1
        · have hs' : isSp b = false := by simpa using hs
          rw [unesc_stays true b r (by simp [hs'])]
          have hb92 : b ≠ 92 := by intro e; subst e; simp [isSp] at hs'
          rw [unesc_plain true b r hb92]
          have := hr.1
          simp only [List.length_cons]
          omega
      · rw [unesc_plain _ _ _ ha, unesc_plain _ _ _ ha]
        have := hb.1
        simp only [List.length_cons] at this ⊢
        omega
    exact ⟨g, hc _ g⟩
  exact (key l).1

/-- A run of backslashes, 2 k of them: k. -/
theorem unesc_pairs (q : Bool) (k : Nat) (r : List UInt8) : unesc q (List.replicate (2 * k) 92 ++ r) = List.replicate k 92 ++ unesc q r := by
  induction k with
  | zero => simp
  | succ k ih =>
    have e : List.replicate (2 * (k + 1)) (92 : UInt8) ++ r = 92 :: 92 :: (List.replicate (2 * k) 92 ++ r) := by
      rw [show 2 * (k + 1) = 2 * k + 1 + 1 by omega, List.replicate_succ, List.replicate_succ]; rfl
    rw [e, unesc_pair, ih]
    rfl

/-- What an odd backslash gives ahead of 'r', whose first byte is no backslash: does it stay? -/
def stays (q : Bool) : List UInt8 → Bool
  | [] => true
  | b :: _ => q && !isSp b

theorem unesc_odd (q : Bool) (r : List UInt8) (h : ∀ b t, r = b :: t → b ≠ 92) : unesc q (92 :: r) = (if stays q r then [92] else []) ++ unesc q r := by
  cases r with
  | nil => simp [unesc, stays]
  | cons b t =>
    have hb := h b t rfl
    by_cases hs : (!q || isSp b) = true
    · rw [unesc_esc q b t hs, unesc_plain q b t hb]
      have : stays q (b :: t) = false := by simp only [stays]; cases q <;> simp_all
      simp [this]
    · have hs' : (!q || isSp b) = false := by simpa using hs
      rw [unesc_stays q b t hs']
      have : stays q (b :: t) = true := by simp only [stays]; cases q <;> simp_all
      simp [this]

/-- A whole run. -/
theorem unesc_run (q : Bool) (n : Nat) (r : List UInt8) (h : ∀ b t, r = b :: t → b ≠ 92) :
    unesc q (List.replicate n 92 ++ r) = List.replicate (n / 2) 92 ++ ((if n % 2 = 1 ∧ stays q r = true then [92] else []) ++ unesc q r) := by
  have e : n = 2 * (n / 2) + n % 2 := by omega
  rcases Nat.mod_two_eq_zero_or_one n with h0 | h1
  · rw [show List.replicate n (92 : UInt8) = List.replicate (2 * (n / 2)) 92 by congr 1; omega, unesc_pairs]
    simp [h0]
  · rw [show List.replicate n (92 : UInt8) ++ r = List.replicate (2 * (n / 2)) 92 ++ (92 :: r) by
      conv => lhs; rw [e, h1]
      rw [List.replicate_succ']; simp, unesc_pairs, unesc_odd q r h]
    simp [h1]

theorem drop_run (L : List UInt8) (k n : Nat) (hr : ∀ t, k ≤ t → t < k + n → L[t]? = some 92) : L.drop k = List.replicate n 92 ++ L.drop (k + n) := by
  induction n generalizing k with
  | zero => simp
  | succ n ih =>
    have h0 := hr k (Nat.le_refl _) (by omega)
    obtain ⟨hk, hv⟩ := List.getElem?_eq_some_iff.1 h0
    rw [List.drop_eq_getElem_cons hk, hv, ih (k + 1) (fun t h1 h2 => hr t (by omega) (by omega)), List.replicate_succ, show k + 1 + n = k + (n + 1) by omega]
    rfl

/-- A run of n backslashes from k on, then none. -/
theorem run_step (L : List UInt8) (q : Bool) (k n : Nat) (acc : List UInt8) (hr : ∀ t, k ≤ t → t < k + n → L[t]? = some 92) (hend : ∀ b, L[k + n]? = some b → b ≠ 92)
    (HI : acc ++ unesc q (L.drop k) = unesc q L) :
    (acc ++ List.replicate (n / 2) 92 ++ (if n % 2 = 1 ∧ stays q (L.drop (k + n)) = true then [92] else [])) ++ unesc q (L.drop (k + n)) = unesc q L := by
  rw [← HI, drop_run L k n hr, unesc_run]
  · simp [List.append_assoc]
  · intro b t e
    apply hend b
    have := congrArg (fun l => l[0]?) e
    simpa using this

theorem stays_end (q : Bool) (L : List UInt8) (j : Nat) (h : L.length ≤ j) : stays q (L.drop j) = true := by
  rw [List.drop_of_length_le h]; rfl

theorem stays_at (q : Bool) (L : List UInt8) (j : Nat) (b : UInt8) (h : L[j]? = some b) : stays q (L.drop j) = (q && !isSp b) := by
  obtain ⟨hk, hv⟩ := List.getElem?_eq_some_iff.1 h
  rw [List.drop_eq_getElem_cons hk, hv]; rfl

end Go.Proofs.Qxb6613957a
