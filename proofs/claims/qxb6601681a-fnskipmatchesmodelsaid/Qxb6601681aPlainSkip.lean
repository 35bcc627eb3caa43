import Derived.Test.Qxb6601681aPlain
namespace Go.Proofs.Qxb6601681a

/-- The scan of a bracketed value, a byte at a time: 'q' tells whether the place lies in a string (and the run of backslashes behind it), 'd' the balance. -/
def sc : List Int → Option Nat → Int → Nat → Option Nat
  | [], _, _, _ => none
  | b :: bs, none, d, p => if b = 34 then sc bs (some 0) d (p + 1) else if b = 123 ∨ b = 91 then sc bs none (d + 1) (p + 1) else if b = 125 ∨ b = 93 then (if d = 1 then some (p + 1) else sc bs none (d - 1) (p + 1)) else sc bs none d (p + 1)
  | b :: bs, some r, d, p => if b = 34 ∧ r % 2 = 0 then sc bs none d (p + 1) else sc bs (some (if b = 92 then r + 1 else 0)) d (p + 1)

theorem sc_end (ts : List Int) (q : Option Nat) (d : Int) (p : Nat) (h : ts.length ≤ p) : sc (ts.drop p) q d p = none := by
  rw [List.drop_of_length_le h]; cases q <;> rfl

theorem sc_quote (ts : List Int) (d : Int) (p : Nat) (h : p < ts.length) (hx : ts.getD p 0 = 34) : sc (ts.drop p) none d p = sc (ts.drop (p + 1)) (some 0) d (p + 1) := by
  rw [drop_cons ts p h]; simp only [sc, hx]; rw [if_pos trivial]
theorem sc_open (ts : List Int) (d : Int) (p : Nat) (h : p < ts.length) (hx : ts.getD p 0 = 123 ∨ ts.getD p 0 = 91) : sc (ts.drop p) none d p = sc (ts.drop (p + 1)) none (d + 1) (p + 1) := by
  rw [drop_cons ts p h]; simp only [sc]; rw [if_neg (by omega), if_pos hx]
theorem sc_shut (ts : List Int) (d : Int) (p : Nat) (h : p < ts.length) (hx : ts.getD p 0 = 125 ∨ ts.getD p 0 = 93) : sc (ts.drop p) none d p = if d = 1 then some (p + 1) else sc (ts.drop (p + 1)) none (d - 1) (p + 1) := by
  rw [drop_cons ts p h]; simp only [sc]; rw [if_neg (by omega), if_neg (by omega), if_pos hx]
theorem sc_other (ts : List Int) (d : Int) (p : Nat) (h : p < ts.length) (h1 : ts.getD p 0 ≠ 34) (h2 : ¬ (ts.getD p 0 = 123 ∨ ts.getD p 0 = 91)) (h3 : ¬ (ts.getD p 0 = 125 ∨ ts.getD p 0 = 93)) :
    sc (ts.drop p) none d p = sc (ts.drop (p + 1)) none d (p + 1) := by
  rw [drop_cons ts p h]; simp only [sc]; rw [if_neg h1, if_neg h2, if_neg h3]

/-- A string that closes at e is passed over as a whole. -/
theorem sc_close (ts : List Int) (d : Int) (m : Nat) : ∀ p r e, ts.length - p = m → close (ts.drop p) r p = some e → sc (ts.drop p) (some r) d p = sc (ts.drop (e + 1)) none d (e + 1) := by
  induction m with
  | zero => intro p r e hm h; rw [close_end ts p r (by omega)] at h; cases h
  | succ m ih =>
    intro p r e hm h
    have hp : p < ts.length := by omega
    rw [drop_cons ts p hp] at h ⊢
    simp only [close] at h
    simp only [sc]
    split at h
    · next c => cases h; rw [if_pos c]
    · next c => rw [if_neg c]; exact ih (p + 1) _ e (by omega) h
theorem sc_unclosed (ts : List Int) (d : Int) (m : Nat) : ∀ p r, ts.length - p = m → close (ts.drop p) r p = none → sc (ts.drop p) (some r) d p = none := by
  induction m with
  | zero => intro p r hm h; exact sc_end ts _ d p (by omega)
  | succ m ih =>
    intro p r hm h
    have hp : p < ts.length := by omega
    rw [drop_cons ts p hp] at h ⊢
    simp only [close] at h
    simp only [sc]
    split at h
    · cases h
    · next c => rw [if_neg c]; exact ih (p + 1) _ (by omega) h

/-- The state ahead of place a + m. -/
def stp : Option Nat → Int → Option Nat
  | none, b => if b = 34 then some 0 else none
  | some r, b => if b = 34 ∧ r % 2 = 0 then none else some (if b = 92 then r + 1 else 0)
def qs (ts : List Int) (a : Nat) : Nat → Option Nat
  | 0 => none
  | m + 1 => stp (qs ts a m) (ts.getD (a + m) 0)
/-- Place a + m lies in a string, its quotes counted in. -/
def inS (ts : List Int) (a m : Nat) : Bool := (qs ts a m).isSome || decide (ts.getD (a + m) 0 = 34)

theorem inS_no (ts : List Int) (a m : Nat) (hq : qs ts a m = none) (hx : ts.getD (a + m) 0 ≠ 34) : inS ts a m = false ∧ qs ts a (m + 1) = none := by
  constructor
  · unfold inS; rw [hq, decide_eq_false hx]; rfl
  · simp only [qs, hq, stp]; rw [if_neg hx]
theorem inS_quote (ts : List Int) (a m : Nat) (hq : qs ts a m = none) (hx : ts.getD (a + m) 0 = 34) : inS ts a m = true ∧ qs ts a (m + 1) = some 0 := by
  constructor
  · unfold inS; rw [hq, decide_eq_true hx]; rfl
  · simp only [qs, hq, stp]; rw [if_pos hx]
theorem inS_some (ts : List Int) (a m r : Nat) (hq : qs ts a m = some r) : inS ts a m = true := by unfold inS; rw [hq]; rfl

/-- From the quote's next place to the closing quote all lies in the string; behind it the scan is outside. -/
theorem qs_close (ts : List Int) (a : Nat) (k : Nat) : ∀ m r e, ts.length - (a + m) = k → qs ts a m = some r → close (ts.drop (a + m)) r (a + m) = some e →
    (∀ j, m ≤ j → a + j ≤ e → inS ts a j = true) ∧ qs ts a (e + 1 - a) = none := by
  induction k with
  | zero => intro m r e hm _ h; rw [close_end ts (a + m) r (by omega)] at h; cases h
  | succ k ih =>
    intro m r e hm hq h
    have hp : a + m < ts.length := by omega
    rw [drop_cons ts (a + m) hp] at h
    simp only [close] at h
    split at h
    · next c =>
      cases h
      refine ⟨fun j h1 h2 => ?_, ?_⟩
      · have : j = m := by omega
        subst this; exact inS_some ts a j r hq
      · rw [show a + m + 1 - a = m + 1 by omega]; simp only [qs, hq, stp]; rw [if_pos c]
    · next c =>
      have hq' : qs ts a (m + 1) = some (if ts.getD (a + m) 0 = 92 then r + 1 else 0) := by simp only [qs, hq, stp]; rw [if_neg c]
      obtain ⟨g1, g2⟩ := ih (m + 1) _ e (by omega) hq' h
      refine ⟨fun j h1 h2 => ?_, g2⟩
      by_cases hj : j = m
      · subst hj; exact inS_some ts a j r hq
      · exact g1 j (by omega) h2

/-- One step of the second pass, inside a string. -/
theorem sc_in (ts : List Int) (a m : Nat) (d : Int) (h : a + m < ts.length) (hi : inS ts a m = true) :
    sc (ts.drop (a + m)) (qs ts a m) d (a + m) = sc (ts.drop (a + m + 1)) (qs ts a (m + 1)) d (a + m + 1) := by
  rcases hq : qs ts a m with _ | r
  · have hx : ts.getD (a + m) 0 = 34 := by
      unfold inS at hi; rw [hq] at hi; simpa using hi
    rw [sc_quote ts d (a + m) h hx, (inS_quote ts a m hq hx).2]
  · rw [drop_cons ts (a + m) h]
    simp only [sc, qs, hq, stp]
    split <;> rfl
theorem qs_out (ts : List Int) (a m : Nat) (hi : inS ts a m = false) : qs ts a m = none ∧ ts.getD (a + m) 0 ≠ 34 ∧ qs ts a (m + 1) = none := by
  unfold inS at hi
  rw [Bool.or_eq_false_iff] at hi
  have h1 : qs ts a m = none := by simpa using hi.1
  have h2 : ts.getD (a + m) 0 ≠ 34 := of_decide_eq_false hi.2
  exact ⟨h1, h2, (inS_no ts a m h1 h2).2⟩

/-- The end of anything else. -/
def scal : List Int → Nat → Option Nat
  | [], _ => none
  | b :: bs, j => if b = 44 ∨ b = 125 then some j else scal bs (j + 1)
theorem scal_end (ts : List Int) (j : Nat) (h : ts.length ≤ j) : scal (ts.drop j) j = none := by
  rw [List.drop_of_length_le h]; rfl
theorem scal_hit (ts : List Int) (j : Nat) (h : j < ts.length) (hx : ts.getD j 0 = 44 ∨ ts.getD j 0 = 125) : scal (ts.drop j) j = some j := by
  rw [drop_cons ts j h]; simp only [scal]; rw [if_pos hx]
theorem scal_miss (ts : List Int) (j : Nat) (h : j < ts.length) (hx : ¬ (ts.getD j 0 = 44 ∨ ts.getD j 0 = 125)) : scal (ts.drop j) j = scal (ts.drop (j + 1)) (j + 1) := by
  rw [drop_cons ts j h]; simp only [scal]; rw [if_neg hx]
theorem scal_some (ts : List Int) (j r : Nat) (h : scal (ts.drop j) j = some r) : j < ts.length := by
  by_cases c : j < ts.length
  · exact c
  · rw [scal_end ts j (by omega)] at h; cases h
theorem sc_some (ts : List Int) (q : Option Nat) (d : Int) (j r : Nat) (h : sc (ts.drop j) q d j = some r) : j < ts.length := by
  by_cases c : j < ts.length
  · exact c
  · rw [sc_end ts q d j (by omega)] at h; cases h
end Go.Proofs.Qxb6601681a
