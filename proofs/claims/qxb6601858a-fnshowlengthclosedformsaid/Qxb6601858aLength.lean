import Derived.Test.Qxb6601858aParts
namespace Go.Proofs.Qxb6601858a
open Go.RowKit
set_option linter.unusedSimpArgs false
set_option linter.unusedVariables false

theorem out_size (us : List UInt8) (p n : Nat) (hp : 0 < p) : (⟨(outTo us p n).toArray⟩ : ByteArray).size = n + (n - 1) / p := by
  rw [← outTo_length us p hp n]; rfl

set_option maxHeartbeats 1000000 in
theorem length_in (nm al : ByteArray) (ln group : Int) (a : Option Addr) (b off len cap : Nat) (us : List UInt8) (w : World) (h1 : nm.size ≤ 262144) (h2 : al.size ≤ 262144) (h19 : len ≤ 524288) (hg : group ≠ 0)
    (ha : Came w a b off len cap) (hc : Bytes w b off us len) :
    Calls Try.prog 5 #[.string nm, .string al, .int .i64 ln, .int .i64 group, .slice a len cap] w fun e w' => e = .returned (.bool true) ∧ Below w.heap.size w w' := by
  have d1 : decide ((262144 : Int) < (nm.size : Int)) = false := by simp; omega
  have d2 : decide ((262144 : Int) < (al.size : Int)) = false := by simp; omega
  have d3 : decide ((524288 : Int) < (len : Int)) = false := by simp; omega
  have d4 : (group == 0) = false := by simpa using hg
  have hpp := per_pos group hg
  obtain ⟨Q, hQ⟩ : ∃ Q : Nat, (len - 1) / per group = Q := ⟨_, rfl⟩
  have hQl : Q ≤ len := by rw [← hQ]; have := Nat.div_le_self (len - 1) (per group); omega
  go_enter Try.func5, Try.ntmps5
  go_wp2_with fail
  refine (zz13 nm al ln group a len cap _ (by unfold maxLen; omega) (by unfold maxLen; omega) (by unfold maxLen; omega)).mono ?_
  rintro e w0 ⟨bb, rfl, rfl⟩
  rcases bb with _ | _
  · go_wp2
    go_ret
    exact ⟨rfl, Below.refl _ _⟩
  · go_wp2_with fail
    refine (clone_any a b off len cap us _ h19 ha hc).mono ?_
    rintro e w1 ⟨a', g, c', rfl, ha', hlc, hc1, hB1⟩
    go_wp2_with fail
    refine (zzshow_any nm al ln group a' g len c' us _ h19 hg ha' hc1).mono ?_
    rintro e w2 ⟨rfl, hB2⟩
    have hS := out_size us (per group) len hpp
    rw [hQ] at hS
    generalize (⟨(outTo us (per group) len).toArray⟩ : ByteArray) = S at hS ⊢
    have HS := hide hS
    have HB : Hid (Below w.heap.size w w2) := hB1.trans (hB2.mono hB1.size)
    clear hS ha' hc1 hB1 hB2 hc ha
    go_wp2_with fail
    refine (period_any group _ hg).mono ?_
    rintro e w3 ⟨rfl, hw3⟩
    have hw3 := hw3.symm
    subst hw3
    by_cases h0 : 0 < len
    · have hq : ((len : Int) - 1) / (per group : Int) = (Q : Int) := by
        rw [← hQ, Int.natCast_ediv]; congr 1; omega
      clear hQ
      have hS : (S.size : Int) = (len : Int) + (Q : Int) := by have := HS.out; omega
      clear HS
      generalize per group = P at *
      go_wp2
      go_ret
      exact ⟨by simp, HB.out⟩
    · have h0' : len = 0 := by omega
      subst h0'
      have hS : (S.size : Int) = 0 := by have := HS.out; simp at hQ; omega
      clear hQ HS
      go_wp2
      go_ret
      exact ⟨rfl, HB.out⟩
end Go.Proofs.Qxb6601858a
