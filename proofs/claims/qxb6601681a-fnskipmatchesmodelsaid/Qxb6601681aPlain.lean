namespace Go.Proofs.Qxb6601681a

/-- Where a string closes: 'l' is the text from place 'j' on, 'run' the length of the run of backslashes just behind. -/
def close : List Int → Nat → Nat → Option Nat
  | [], _, _ => none
  | b :: bs, run, j => if b = 34 ∧ run % 2 = 0 then some j else close bs (if b = 92 then run + 1 else 0) (j + 1)

theorem drop_cons (ts : List Int) (j : Nat) (h : j < ts.length) : ts.drop j = ts.getD j 0 :: ts.drop (j + 1) := by
  rw [List.drop_eq_getElem_cons h]; simp [h]

theorem close_end (ts : List Int) (j r : Nat) (h : ts.length ≤ j) : close (ts.drop j) r j = none := by
  rw [List.drop_of_length_le h]; rfl

theorem close_hit (ts : List Int) (j r : Nat) (h : j < ts.length) (hx : ts.getD j 0 = 34) (hr : r % 2 = 0) : close (ts.drop j) r j = some j := by
  rw [drop_cons ts j h]; simp only [close, hx, hr, and_self, if_true]

theorem close_bs (ts : List Int) (j r : Nat) (h : j < ts.length) (hx : ts.getD j 0 = 92) : close (ts.drop j) r j = close (ts.drop (j + 1)) (r + 1) (j + 1) := by
  rw [drop_cons ts j h]; simp only [close, hx]; rw [if_neg (by omega), if_pos trivial]

theorem close_other (ts : List Int) (j r : Nat) (h : j < ts.length) (hx : ts.getD j 0 ≠ 92) (hr : ¬ (ts.getD j 0 = 34 ∧ r % 2 = 0)) : close (ts.drop j) r j = close (ts.drop (j + 1)) 0 (j + 1) := by
  rw [drop_cons ts j h]; simp only [close]; rw [if_neg hr, if_neg hx]

theorem close_add2 (l : List Int) : ∀ r j, close l (r + 2) j = close l r j := by
  induction l with
  | nil => intro r j; rfl
  | cons b bs ih =>
    intro r j
    simp only [close, Nat.add_mod_right]
    by_cases h : b = 92
    · simp only [h, if_true]
      rw [show r + 2 + 1 = r + 1 + 2 by omega, ih]
    · simp only [h, if_false]

/-- A close that is found lies behind the place where the search began, within the text. -/
theorem close_range (ts : List Int) (m : Nat) : ∀ j r e, ts.length - j = m → close (ts.drop j) r j = some e → j ≤ e ∧ e < ts.length ∧ j < ts.length := by
  induction m with
  | zero => intro j r e hm h; rw [close_end ts j r (by omega)] at h; cases h
  | succ m ih =>
    intro j r e hm h
    have hj : j < ts.length := by omega
    rw [drop_cons ts j hj] at h
    simp only [close] at h
    split at h
    · cases h; exact ⟨Nat.le_refl _, hj, hj⟩
    · have := ih (j + 1) _ e (by omega) h
      omega

theorem close_esc (ts : List Int) (j e : Nat) (h : j < ts.length) (hx : ts.getD j 0 = 92) (hc : close (ts.drop j) 0 j = some e) : close (ts.drop (j + 2)) 0 (j + 2) = some e := by
  rw [close_bs ts j 0 h hx] at hc
  have h1 := (close_range ts _ (j + 1) _ e rfl hc).2.2
  by_cases hy : ts.getD (j + 1) 0 = 92
  · rw [close_bs ts (j + 1) _ h1 hy, close_add2] at hc; exact hc
  · rw [close_other ts (j + 1) _ h1 hy (by omega)] at hc; exact hc

/-- The text's places from lo up to hi hold no backslash. -/
def noBs (ts : List Int) (lo : Nat) : Nat → Bool
  | 0 => true
  | hi + 1 => noBs ts lo hi && (decide (hi < lo) || ts.getD hi 0 != 92)

theorem noBs_step (ts : List Int) (lo hi : Nat) (h : lo ≤ hi) (hx : ts.getD hi 0 ≠ 92) : noBs ts lo (hi + 1) = noBs ts lo hi := by
  have : ¬ hi < lo := by omega
  simp only [noBs]
  rw [show (ts.getD hi 0 != 92) = true by simpa using hx]; simp
theorem noBs_hit (ts : List Int) (lo hi : Nat) (h : lo ≤ hi) (hx : ts.getD hi 0 = 92) : noBs ts lo (hi + 1) = false := by
  have : ¬ hi < lo := by omega
  simp only [noBs, hx]; simp [this]
theorem noBs_start (ts : List Int) (lo : Nat) : ∀ hi, hi ≤ lo → noBs ts lo hi = true
  | 0, _ => rfl
  | hi + 1, h => by simp only [noBs]; rw [noBs_start ts lo hi (by omega)]; simp; left; omega
theorem noBs_false (ts : List Int) (lo hi : Nat) (h : noBs ts lo hi = false) : noBs ts lo (hi + 1) = false := by
  simp only [noBs, h]; rfl

end Go.Proofs.Qxb6601681a
