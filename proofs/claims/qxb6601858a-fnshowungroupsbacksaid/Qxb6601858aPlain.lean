namespace Go.Proofs.Qxb6601858a
set_option linter.unusedSimpArgs false
set_option linter.unusedVariables false

/-- |group|, capped. -/
def per (g : Int) : Nat := min g.natAbs 2097152

theorem per_pos (g : Int) (h : g ≠ 0) : 0 < per g := by unfold per; omega

theorem div_step (p k : Nat) (hp : 0 < p) : k / p = (k - 1) / p + if 0 < k ∧ k % p = 0 then 1 else 0 := by
  rcases k with _ | m
  · simp
  · rw [Nat.add_sub_cancel]
    have hd := Nat.div_add_mod m p
    have hl := Nat.mod_lt m hp
    by_cases hr : m % p + 1 = p
    · have e : m + 1 = p * (m / p + 1) := by rw [Nat.mul_add, Nat.mul_one]; omega
      rw [if_pos ⟨by omega, by rw [e]; exact Nat.mul_mod_right _ _⟩, e, Nat.mul_div_cancel_left _ hp]
    · have e : m + 1 = p * (m / p) + (m % p + 1) := by omega
      have h2 : (m + 1) % p = m % p + 1 := by rw [e, Nat.mul_add_mod, Nat.mod_eq_of_lt (by omega)]
      rw [if_neg (by omega), Nat.add_zero]
      have h3 : (m % p + 1) / p = 0 := Nat.div_eq_of_lt (by omega)
      have h4 : (p * (m / p) + (m % p + 1)) / p = m / p := by rw [Nat.mul_add_div hp, h3, Nat.add_zero]
      rw [← h4, ← e]; exact (Nat.add_zero _).symm

/-- The dash ahead of byte k. -/
def dash (p k : Nat) : List UInt8 := if 0 < k ∧ k % p = 0 then [45] else []
/-- The text behind k bytes. -/
def outTo (us : List UInt8) (p : Nat) : Nat → List UInt8
  | 0 => []
  | k + 1 => outTo us p k ++ dash p k ++ [us.getD k 0]

theorem dash_yes {p k : Nat} (h : 0 < k ∧ k % p = 0) : dash p k = [45] := by unfold dash; rw [if_pos h]
theorem dash_no {p k : Nat} (h : ¬ (0 < k ∧ k % p = 0)) : dash p k = [] := by unfold dash; rw [if_neg h]

theorem outTo_length (us : List UInt8) (p : Nat) (hp : 0 < p) : ∀ k, (outTo us p k).length = k + (k - 1) / p
  | 0 => by simp [outTo]
  | k + 1 => by
    have ih := outTo_length us p hp k
    have hs := div_step p k hp
    simp only [outTo, List.length_append, ih, List.length_cons, List.length_nil, Nat.add_sub_cancel]
    by_cases h : 0 < k ∧ k % p = 0
    · rw [dash_yes h]; rw [if_pos h] at hs; simp only [List.length_cons, List.length_nil]; omega
    · rw [dash_no h]; rw [if_neg h] at hs; simp only [List.length_nil]; omega
theorem outTo_le (us : List UInt8) (p : Nat) (hp : 0 < p) (k : Nat) : (outTo us p k).length ≤ 2 * k := by
  rw [outTo_length us p hp k]
  have := Nat.div_le_self (k - 1) p
  omega

/-- The two remainders agree on the places of a text. -/
theorem rem_per (g : Int) (k : Nat) (hg : g ≠ 0) (hk : k ≤ 524288) : ((k : Int) % g = 0) ↔ k % per g = 0 := by
  have h1 : ((k : Int) % g = 0) ↔ k % g.natAbs = 0 := by
    rw [← Int.dvd_iff_emod_eq_zero, ← Int.natAbs_dvd, Int.natCast_dvd_natCast, Nat.dvd_iff_mod_eq_zero]
  rw [h1]
  by_cases hc : g.natAbs ≤ 2097152
  · rw [show per g = g.natAbs by unfold per; omega]
  · rw [show per g = 2097152 by unfold per; omega, Nat.mod_eq_of_lt (by omega), Nat.mod_eq_of_lt (by omega)]

theorem div_bd (n : Nat) (g : Int) (hg : g ≠ 0) : -(n : Int) ≤ (n : Int) / g ∧ (n : Int) / g ≤ n := by
  rcases Int.lt_or_lt_of_ne hg with h | h
  · obtain ⟨m, rfl⟩ : ∃ m : Int, g = -m := ⟨-g, by omega⟩
    rw [Int.ediv_neg]
    have h1 : 0 ≤ (n : Int) / m := Int.ediv_nonneg (by omega) (by omega)
    have h2 : (n : Int) / m ≤ n := Int.ediv_le_self _ (by omega)
    omega
  · have h1 : 0 ≤ (n : Int) / g := Int.ediv_nonneg (by omega) (by omega)
    have h2 : (n : Int) / g ≤ n := Int.ediv_le_self _ (by omega)
    omega

/-- How many bytes of the code lie among the first j of the text. -/
def bk (p j : Nat) : Nat := j - j / (p + 1)
theorem bk_step_dash (p j : Nat) (h : (j + 1) % (p + 1) = 0) : bk p (j + 1) = bk p j := by
  have := div_step (p + 1) (j + 1) (by omega)
  rw [if_pos ⟨by omega, h⟩, Nat.add_sub_cancel] at this
  unfold bk; rw [this]; omega
theorem bk_step (p j : Nat) (hp : 0 < p) (h : (j + 1) % (p + 1) ≠ 0) : bk p (j + 1) = bk p j + 1 := by
  have := div_step (p + 1) (j + 1) (by omega)
  rw [if_neg (by omega), Nat.add_sub_cancel] at this
  have := Nat.div_le_self j (p + 1)
  unfold bk; omega

/-- Place q (p + 1) + r, r ≤ p. -/
theorem at_qr (p q r : Nat) (hr : r ≤ p) : (q * (p + 1) + r) / (p + 1) = q ∧ (q * (p + 1) + r) % (p + 1) = r := by
  constructor
  · rw [Nat.mul_comm, Nat.mul_add_div (by omega), Nat.div_eq_of_lt (by omega)]; omega
  · rw [Nat.mul_comm, Nat.mul_add_mod, Nat.mod_eq_of_lt (by omega)]
theorem at_kr (p q r : Nat) (hr : r < p) : (q * p + r) / p = q ∧ (q * p + r) % p = r := by
  constructor
  · rw [Nat.mul_comm, Nat.mul_add_div (by omega), Nat.div_eq_of_lt (by omega)]; omega
  · rw [Nat.mul_comm, Nat.mul_add_mod, Nat.mod_eq_of_lt (by omega)]

/-- Byte k of the code stands at place k + k / p of the text; a dash stands at place j where j + 1 is a multiple of p + 1. -/
theorem place (p k : Nat) (hp : 0 < p) : (k + k / p + 1) % (p + 1) ≠ 0 ∧ bk p (k + k / p) = k := by
  have hd := Nat.div_add_mod k p
  have hl := Nat.mod_lt k hp
  obtain ⟨q, hq⟩ : ∃ q, k / p = q := ⟨_, rfl⟩
  obtain ⟨r, hr⟩ : ∃ r, k % p = r := ⟨_, rfl⟩
  rw [hq, hr] at hd
  rw [hr] at hl
  have e : k + q = q * (p + 1) + r := by rw [Nat.mul_add, Nat.mul_one, Nat.mul_comm q p]; omega
  rw [hq]
  constructor
  · rw [e, Nat.add_assoc, (at_qr p q (r + 1) (by omega)).2]; omega
  · unfold bk; rw [e, (at_qr p q r (by omega)).1, Nat.mul_add, Nat.mul_one, Nat.mul_comm q p]; omega
theorem dash_place (p k : Nat) (hp : 0 < p) (hk : 0 < k ∧ k % p = 0) : (k + (k - 1) / p + 1) % (p + 1) = 0 := by
  have hs := div_step p k hp
  rw [if_pos hk] at hs
  have hd := Nat.div_add_mod k p
  obtain ⟨q, hq⟩ : ∃ q, k / p = q := ⟨_, rfl⟩
  rw [hq] at hd hs
  have e : k + (k - 1) / p + 1 = q * (p + 1) + 0 := by rw [Nat.mul_add, Nat.mul_one, Nat.mul_comm q p]; omega
  rw [e, (at_qr p q 0 (by omega)).2]

theorem outTo_at (us : List UInt8) (p : Nat) (hp : 0 < p) : ∀ n j, j < (outTo us p n).length →
    (outTo us p n).getD j 0 = if (j + 1) % (p + 1) = 0 then 45 else us.getD (bk p j) 0
  | 0, j, h => by simp [outTo] at h
  | n + 1, j, h => by
    have ih := outTo_at us p hp n
    have hL := outTo_length us p hp n
    have hs := div_step p n hp
    simp only [outTo] at h ⊢
    by_cases hd : 0 < n ∧ n % p = 0
    · rw [dash_yes hd] at h ⊢
      rw [if_pos hd] at hs
      simp only [List.length_append, List.length_cons, List.length_nil] at h
      by_cases h1 : j < (outTo us p n).length
      · rw [← ih j h1]
        simp [List.getElem?_append, h1, show j < (outTo us p n).length + 1 by omega]
      · by_cases h2 : j = (outTo us p n).length
        · have e := dash_place p n hp hd
          rw [← hL, ← h2] at e
          rw [if_pos e, h2]
          simp [List.getElem?_append]
        · have h3 : j = (outTo us p n).length + 1 := by omega
          have e : j = n + n / p := by omega
          rw [e, if_neg (place p n hp).1, (place p n hp).2, ← e, h3]
          simp [List.getElem?_append]
    · rw [dash_no hd] at h ⊢
      rw [if_neg hd] at hs
      simp only [List.length_append, List.length_cons, List.length_nil] at h
      by_cases h1 : j < (outTo us p n).length
      · rw [← ih j h1]
        simp [List.getElem?_append, h1]
      · have h3 : j = (outTo us p n).length := by omega
        have e : j = n + n / p := by omega
        rw [e, if_neg (place p n hp).1, (place p n hp).2, ← e, h3]
        simp [List.getElem?_append]

theorem bk_end (p n : Nat) (hp : 0 < p) : bk p (n + (n - 1) / p) = n := by
  rcases n with _ | m
  · simp [bk]
  · rw [Nat.add_sub_cancel]
    have h := place p m hp
    have h2 := bk_step p (m + m / p) hp h.1
    rw [h.2] at h2
    rw [show m + 1 + m / p = m + m / p + 1 by omega, h2]
theorem bk_mono (p : Nat) (hp : 0 < p) (a : Nat) : ∀ b, bk p a ≤ bk p (a + b)
  | 0 => Nat.le_refl _
  | b + 1 => by
    have ih := bk_mono p hp a b
    by_cases h : (a + b + 1) % (p + 1) = 0
    · rw [← Nat.add_assoc, bk_step_dash p (a + b) h]; exact ih
    · rw [← Nat.add_assoc, bk_step p (a + b) hp h]; omega
theorem bk_lt (p n j : Nat) (hp : 0 < p) (hj : j < n + (n - 1) / p) (h : (j + 1) % (p + 1) ≠ 0) : bk p j < n := by
  have h1 := bk_mono p hp (j + 1) (n + (n - 1) / p - (j + 1))
  rw [show j + 1 + (n + (n - 1) / p - (j + 1)) = n + (n - 1) / p by omega, bk_end p n hp, bk_step p j hp h] at h1
  omega

theorem take_drop_succ (us : List UInt8) (s t : Nat) (h : s + t < us.length) : (us.drop s).take (t + 1) = (us.drop s).take t ++ [us.getD (s + t) 0] := by
  rw [List.take_add_one, List.getElem?_drop]
  congr 1
  simp [h]

/-- A whole chunk from s, a multiple of p. -/
theorem outTo_chunk (us : List UInt8) (p s : Nat) (hs : s % p = 0) : ∀ t, t + 1 ≤ p → s + t + 1 ≤ us.length →
    outTo us p (s + t + 1) = outTo us p s ++ dash p s ++ (us.drop s).take (t + 1)
  | 0, _, hl => by
    rw [take_drop_succ us s 0 (by omega)]
    simp [outTo]
  | t + 1, ht, hl => by
    have ih := outTo_chunk us p s hs t (by omega) (by omega)
    have hm : (s + t + 1) % p ≠ 0 := by
      rw [Nat.add_assoc, Nat.add_mod, hs, Nat.zero_add, Nat.mod_mod, Nat.mod_eq_of_lt (by omega)]; omega
    rw [show s + (t + 1) + 1 = (s + t + 1) + 1 by omega]
    rw [outTo, ih, dash_no (p := p) (k := s + t + 1) (fun h => hm h.2), List.append_nil, List.append_assoc, take_drop_succ us s (t + 1) (by omega)]
    rfl
end Go.Proofs.Qxb6601858a
