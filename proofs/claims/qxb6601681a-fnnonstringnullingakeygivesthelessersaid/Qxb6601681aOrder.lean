import Derived.Laws.Strings
namespace Go.Proofs.Qxb6601681a

theorem less_irrefl : ∀ x : List UInt8, Op.bytesLess x x = false
  | [] => rfl
  | a :: x => by simp [Op.bytesLess, less_irrefl x]
theorem less_trans : ∀ x y z : List UInt8, Op.bytesLess x y = true → Op.bytesLess y z = true → Op.bytesLess x z = true
  | x, y, [], _, h => by cases y <;> simp [Op.bytesLess] at h
  | [], _, c :: z, _, _ => rfl
  | a :: x, [], c :: z, h, _ => by simp [Op.bytesLess] at h
  | a :: x, b :: y, c :: z, h1, h2 => by
    simp only [Op.bytesLess, Bool.or_eq_true, Bool.and_eq_true, decide_eq_true_eq, beq_iff_eq] at h1 h2 ⊢
    rcases h1 with h1 | ⟨rfl, h1⟩
    · rcases h2 with h2 | ⟨rfl, h2⟩
      · left; rw [UInt8.lt_iff_toNat_lt] at *; omega
      · left; exact h1
    · rcases h2 with h2 | ⟨rfl, h2⟩
      · left; exact h2
      · right; exact ⟨rfl, less_trans x y z h1 h2⟩
theorem less_total : ∀ x y : List UInt8, Op.bytesLess x y = false → Op.bytesLess y x = false → x = y
  | [], [], _, _ => rfl
  | [], _ :: _, h, _ => by simp [Op.bytesLess] at h
  | _ :: _, [], _, h => by simp [Op.bytesLess] at h
  | a :: x, b :: y, h1, h2 => by
    simp only [Op.bytesLess, Bool.or_eq_false_iff, decide_eq_false_iff_not, Bool.and_eq_false_imp, beq_iff_eq] at h1 h2
    have e : a = b := by
      apply UInt8.toNat_inj.1
      have := h1.1; have := h2.1
      rw [UInt8.lt_iff_toNat_lt] at *
      omega
    subst e
    rw [less_total x y (h1.2 rfl) (h2.2 rfl)]

/-- The order of strings. -/
def lt (a b : ByteArray) : Bool := Op.bytesLess a.toList b.toList
theorem lt_irrefl (a : ByteArray) : lt a a = false := less_irrefl _
theorem lt_trans {a b c : ByteArray} (h1 : lt a b = true) (h2 : lt b c = true) : lt a c = true := less_trans _ _ _ h1 h2
theorem lt_total {a b : ByteArray} (h1 : lt a b = false) (h2 : lt b a = false) : a = b := by
  have := less_total _ _ h1 h2
  rw [Go.ByteArray.toList_eq, Go.ByteArray.toList_eq] at this
  cases a; cases b
  simp at this
  rw [this]

/-- Nulling k in a set of bad keys gives the lesser of k and the least bad key. -/
theorem lesser (B1 B2 : ByteArray → Prop) (k key1 key2 : ByteArray) (f1 f2 : Bool)
    (h1a : f1 = true → B1 key1) (h1b : ∀ s, B1 s → f1 = true ∧ lt s key1 = false)
    (h2a : f2 = true → B2 key2) (h2b : ∀ s, B2 s → f2 = true ∧ lt s key2 = false)
    (hB : ∀ s, B2 s ↔ (s = k ∨ B1 s)) : f2 = true ∧ ((f1 && lt key1 k) = true → key2 = key1) ∧ ((f1 && lt key1 k) = false → key2 = k) := by
  have hk := h2b k ((hB k).2 (Or.inl rfl))
  have hkey := (hB key2).1 (h2a hk.1)
  refine ⟨hk.1, fun h => ?_, fun h => ?_⟩
  · rw [Bool.and_eq_true] at h
    have b1 := h1a h.1
    have m1 := h2b key1 ((hB key1).2 (Or.inr b1))
    rcases hkey with e | b2
    · rw [e] at m1; rw [h.2] at m1; exact absurd m1.2 (by decide)
    · exact lt_total (h1b key2 b2).2 m1.2
  · rcases hkey with e | b2
    · exact e
    · have m2 := h1b key2 b2
      rw [m2.1, Bool.true_and] at h
      cases hc : lt key2 k
      · exact lt_total hc hk.2
      · exfalso
        cases hd : lt key1 key2
        · have := lt_total hd m2.2
          rw [this] at h; rw [h] at hc; cases hc
        · have := lt_trans hd hc
          rw [h] at this; cases this
end Go.Proofs.Qxb6601681a
