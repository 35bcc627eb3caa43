import Derived.Test.Qxb6601756aRows
import Derived.WalkKit
import Derived.WalkSpells
import Derived.BigQuiet
import Derived.Below
namespace Go.Proofs.Qxb6601756a
open Go.RowKit
set_option linter.unusedSimpArgs false
set_option linter.unusedVariables false

theorem Try.info3 : (Try.prog.info? 3).map (fun i => (i.zero, i.size, i.bytes)) = some (some (.int .i64 0), 1, 8) := by kernel_rfl

/-- The cells of a row of ints. -/
def Ints (w : World) (b off : Nat) (zs : List Int) (n : Nat) : Prop := ∀ i, i < n → w.cell? ⟨b, off + i, none⟩ = some (.int .i64 (zs.getD i 0))

/-- The copy's own row. -/
def Owned (w : World) (B len : Nat) : Prop := ∃ xs, w.ownsRow B 3 1 (.slice (some ⟨B, 0, none⟩) len len) len xs
theorem Owned.at {w : World} {B len : Nat} (h : Owned w B len) (k : Nat) (hk : k < len) : ∃ u, w.cell? ⟨B, k, none⟩ = some u := by
  obtain ⟨xs, h⟩ := h
  have e := h.cellAt k (by omega)
  have hl : xs.length = len * 1 := h.1
  exact ⟨xs[k]'(by omega), by rw [e]; simp [show k < xs.length by omega]⟩
theorem Owned.frozen {w : World} {B len : Nat} (h : Owned w B len) (k : Nat) : w.frozen? ⟨B, k, none⟩ = false := by
  obtain ⟨xs, h⟩ := h
  exact h.frozenAt k
theorem Owned.set {w : World} {B len : Nat} (h : Owned w B len) (k : Nat) (u : Value) : Owned (w.setCell ⟨B, k, none⟩ u) B len := by
  obtain ⟨xs, h⟩ := h
  exact ⟨_, (h.stored k u).1⟩
theorem Owned.lt {w : World} {B len : Nat} (h : Owned w B len) : B < w.heap.size := by
  obtain ⟨xs, h⟩ := h
  exact (h.lt B rfl).2
theorem Ints.step {w : World} {B k : Nat} {zs : List Int} (h : Ints w B 0 zs k) (hs : ∃ u, w.cell? ⟨B, k, none⟩ = some u) :
    Ints (w.setCell ⟨B, k, none⟩ (.int .i64 (zs.getD k 0))) B 0 zs (k + 1) := by
  intro i hi
  rw [Nat.zero_add]
  by_cases e : i = k
  · subst e
    obtain ⟨u, hu⟩ := hs
    rw [World.cell?_setCell_same _ _ _ hu]
  · rw [World.cell?_setCell_other _ _ _ _ (by first | (simp; done) | (simp; omega))]
    have := h i (by omega)
    simpa using this
theorem Ints.later {w w' : World} {g o n B : Nat} {zs : List Int} (h : Ints w g o zs n) (hb : Below B w w') (hg : g < B) : Ints w' g o zs n :=
  fun i hi => (hb.cell (p := ⟨g, o + i, none⟩) hg).trans (h i hi)

/-- How often x stands among the first k; and how often neither 1 nor 2. -/
def cn (x : Int) (zs : List Int) : Nat → Nat
  | 0 => 0
  | k + 1 => cn x zs k + if zs.getD k 0 = x then 1 else 0
def co (zs : List Int) : Nat → Nat
  | 0 => 0
  | k + 1 => co zs k + if zs.getD k 0 = 1 ∨ zs.getD k 0 = 2 then 0 else 1
theorem cn_hit (x : Int) (zs : List Int) (k : Nat) (h : zs.getD k 0 = x) : cn x zs (k + 1) = cn x zs k + 1 := by simp only [cn, h, if_true]
theorem cn_miss (x : Int) (zs : List Int) (k : Nat) (h : zs.getD k 0 ≠ x) : cn x zs (k + 1) = cn x zs k := by simp only [cn]; rw [if_neg h]; rfl
theorem co_hit (zs : List Int) (k : Nat) (h : ¬ (zs.getD k 0 = 1 ∨ zs.getD k 0 = 2)) : co zs (k + 1) = co zs k + 1 := by simp only [co]; rw [if_neg h]
theorem co_miss (zs : List Int) (k : Nat) (h : zs.getD k 0 = 1 ∨ zs.getD k 0 = 2) : co zs (k + 1) = co zs k := by simp only [co]; rw [if_pos h]; rfl
theorem c_sum (zs : List Int) : ∀ k, cn 1 zs k + cn 2 zs k + co zs k = k
  | 0 => rfl
  | k + 1 => by
    have ih := c_sum zs k
    by_cases h1 : zs.getD k 0 = 1
    · rw [cn_hit 1 zs k h1, cn_miss 2 zs k (by omega), co_miss zs k (by omega)]; omega
    · by_cases h2 : zs.getD k 0 = 2
      · rw [cn_miss 1 zs k h1, cn_hit 2 zs k h2, co_miss zs k (by omega)]; omega
      · rw [cn_miss 1 zs k h1, cn_miss 2 zs k h2, co_hit zs k (by omega)]; omega

set_option maxHeartbeats 400000 in
theorem zza (a : Option Addr) (len cap : Nat) (w : World) (h : len ≤ 1048576) :
    Calls Try.prog 5 #[.slice a len cap] w fun e w' => e = .returned (.bool true) ∧ w' = w := by
  have h1 : ¬ (1048576 : Int) < (len : Int) := by omega
  go_enter Try.func5, Try.ntmps5
  go_wp2
  go_ret
  exact ⟨rfl, rfl⟩
theorem zza_no (a : Option Addr) (len cap : Nat) (w : World) (h : 1048576 < len) :
    Calls Try.prog 5 #[.slice a len cap] w fun e w' => e = .returned (.bool false) ∧ w' = w := by
  have h1 : (1048576 : Int) < (len : Int) := by omega
  go_enter Try.func5, Try.ntmps5
  go_wp2
  go_ret
  exact ⟨rfl, rfl⟩
theorem zzk (a : Option Addr) (len cap : Nat) (w : World) (h : len ≤ 1048576) :
    Calls Try.prog 7 #[.slice a len cap] w fun e w' => e = .returned (.bool true) ∧ w' = w := by
  have h1 : ¬ (1048576 : Int) < (len : Int) := by omega
  go_enter Try.func7, Try.ntmps7
  go_wp2
  go_ret
  exact ⟨rfl, rfl⟩
theorem zzk_no (a : Option Addr) (len cap : Nat) (w : World) (h : 1048576 < len) :
    Calls Try.prog 7 #[.slice a len cap] w fun e w' => e = .returned (.bool false) ∧ w' = w := by
  have h1 : (1048576 : Int) < (len : Int) := by omega
  go_enter Try.func7, Try.ntmps7
  go_wp2
  go_ret
  exact ⟨rfl, rfl⟩

set_option maxHeartbeats 400000 in
theorem add_self (c s o n : Int) (w : World) (hc : 0 ≤ c ∧ c ≤ 131072) (hs : 0 ≤ s ∧ s ≤ 131072) (ho : 0 ≤ o ∧ o ≤ 131072) (hn : 0 ≤ n ∧ n ≤ 131072) :
    Calls Try.prog 6 #[.int .i64 c, .int .i64 s, .int .i64 o, .int .i64 n, .int .i64 1] w fun e w' =>
      e = .returned (.tuple #[.int .i64 (c + 1), .int .i64 (s + 1), .int .i64 o, .int .i64 n]) ∧ Below w.heap.size w w' := by
  go_enter Try.func6, Try.ntmps6
  go_wp2
  go_end0
  go_wp2
  go_quiet (fail)
  go_wp2
  exact bodyPost_ret (v := .tuple #[.int .i64 (c + 1), .int .i64 (s + 1), .int .i64 o, .int .i64 n]) (by simp [results, Try.results6, go_sem]) rfl ⟨rfl, ((Below.refl _ _).alloc (Nat.le_refl _) _).trans ⟨rfl, rfl, rfl, Nat.le_refl _, fun _ _ => rfl⟩⟩

set_option maxHeartbeats 400000 in
theorem add_other (c s o n : Int) (w : World) (hc : 0 ≤ c ∧ c ≤ 131072) (hs : 0 ≤ s ∧ s ≤ 131072) (ho : 0 ≤ o ∧ o ≤ 131072) (hn : 0 ≤ n ∧ n ≤ 131072) :
    Calls Try.prog 6 #[.int .i64 c, .int .i64 s, .int .i64 o, .int .i64 n, .int .i64 2] w fun e w' =>
      e = .returned (.tuple #[.int .i64 (c + 1), .int .i64 s, .int .i64 (o + 1), .int .i64 n]) ∧ Below w.heap.size w w' := by
  go_enter Try.func6, Try.ntmps6
  go_wp2
  go_end0
  go_wp2
  go_quiet (fail)
  go_wp2
  exact bodyPost_ret (v := .tuple #[.int .i64 (c + 1), .int .i64 s, .int .i64 (o + 1), .int .i64 n]) (by simp [results, Try.results6, go_sem]) rfl ⟨rfl, ((Below.refl _ _).alloc (Nat.le_refl _) _).trans ⟨rfl, rfl, rfl, Nat.le_refl _, fun _ _ => rfl⟩⟩

set_option maxHeartbeats 400000 in
theorem add_none (c s o n : Int) (x : Int) (h1 : (x == 1) = false) (h2 : (x == 2) = false) (w : World) (hc : 0 ≤ c ∧ c ≤ 131072) (hs : 0 ≤ s ∧ s ≤ 131072) (ho : 0 ≤ o ∧ o ≤ 131072) (hn : 0 ≤ n ∧ n ≤ 131072) :
    Calls Try.prog 6 #[.int .i64 c, .int .i64 s, .int .i64 o, .int .i64 n, .int .i64 x] w fun e w' =>
      e = .returned (.tuple #[.int .i64 (c + 1), .int .i64 s, .int .i64 o, .int .i64 (n + 1)]) ∧ Below w.heap.size w w' := by
  go_enter Try.func6, Try.ntmps6
  go_wp2
  go_end0
  go_wp2
  go_quiet (fail)
  go_wp2
  exact bodyPost_ret (v := .tuple #[.int .i64 (c + 1), .int .i64 s, .int .i64 o, .int .i64 (n + 1)]) (by simp [results, Try.results6, go_sem]) rfl ⟨rfl, ((Below.refl _ _).alloc (Nat.le_refl _) _).trans ⟨rfl, rfl, rfl, Nat.le_refl _, fun _ _ => rfl⟩⟩

set_option maxHeartbeats 400000 in
theorem kadd_csca (c l o : Int) (w : World) (hc : 0 ≤ c ∧ c ≤ 131072) (hl : 0 ≤ l ∧ l ≤ 131072) (ho : 0 ≤ o ∧ o ≤ 131072) :
    Calls Try.prog 8 #[.int .i64 c, .int .i64 l, .int .i64 o, .int .i64 1] w fun e w' =>
      e = .returned (.tuple #[.int .i64 (c + 1), .int .i64 l, .int .i64 o]) ∧ Below w.heap.size w w' := by
  go_enter Try.func8, Try.ntmps8
  go_wp2
  go_end0
  go_wp2
  go_quiet (fail)
  go_wp2
  exact bodyPost_ret (v := .tuple #[.int .i64 (c + 1), .int .i64 l, .int .i64 o]) (by simp [results, Try.results8, go_sem]) rfl ⟨rfl, ((Below.refl _ _).alloc (Nat.le_refl _) _).trans ⟨rfl, rfl, rfl, Nat.le_refl _, fun _ _ => rfl⟩⟩

set_option maxHeartbeats 400000 in
theorem kadd_link (c l o : Int) (w : World) (hc : 0 ≤ c ∧ c ≤ 131072) (hl : 0 ≤ l ∧ l ≤ 131072) (ho : 0 ≤ o ∧ o ≤ 131072) :
    Calls Try.prog 8 #[.int .i64 c, .int .i64 l, .int .i64 o, .int .i64 2] w fun e w' =>
      e = .returned (.tuple #[.int .i64 c, .int .i64 (l + 1), .int .i64 o]) ∧ Below w.heap.size w w' := by
  go_enter Try.func8, Try.ntmps8
  go_wp2
  go_end0
  go_wp2
  go_quiet (fail)
  go_wp2
  exact bodyPost_ret (v := .tuple #[.int .i64 c, .int .i64 (l + 1), .int .i64 o]) (by simp [results, Try.results8, go_sem]) rfl ⟨rfl, ((Below.refl _ _).alloc (Nat.le_refl _) _).trans ⟨rfl, rfl, rfl, Nat.le_refl _, fun _ _ => rfl⟩⟩

set_option maxHeartbeats 400000 in
theorem kadd_other (c l o : Int) (x : Int) (h1 : (x == 1) = false) (h2 : (x == 2) = false) (w : World) (hc : 0 ≤ c ∧ c ≤ 131072) (hl : 0 ≤ l ∧ l ≤ 131072) (ho : 0 ≤ o ∧ o ≤ 131072) :
    Calls Try.prog 8 #[.int .i64 c, .int .i64 l, .int .i64 o, .int .i64 x] w fun e w' =>
      e = .returned (.tuple #[.int .i64 c, .int .i64 l, .int .i64 (o + 1)]) ∧ Below w.heap.size w w' := by
  go_enter Try.func8, Try.ntmps8
  go_wp2
  go_end0
  go_wp2
  go_quiet (fail)
  go_wp2
  exact bodyPost_ret (v := .tuple #[.int .i64 c, .int .i64 l, .int .i64 (o + 1)]) (by simp [results, Try.results8, go_sem]) rfl ⟨rfl, ((Below.refl _ _).alloc (Nat.le_refl _) _).trans ⟨rfl, rfl, rfl, Nat.le_refl _, fun _ _ => rfl⟩⟩

end Go.Proofs.Qxb6601756a
