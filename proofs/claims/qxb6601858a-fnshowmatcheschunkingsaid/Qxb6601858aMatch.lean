import Derived.Test.Qxb6601858aChunk
namespace Go.Proofs.Qxb6601858a
open Go.RowKit
set_option linter.unusedSimpArgs false
set_option linter.unusedVariables false

theorem per_le (g : Int) : per g ≤ 2097152 := by unfold per; omega

set_option maxHeartbeats 1000000 in
theorem match_in (nm al : ByteArray) (ln group : Int) (a : Option Addr) (b off len cap : Nat) (us : List UInt8) (w : World) (h1 : nm.size ≤ 262144) (h2 : al.size ≤ 262144) (h19 : len ≤ 524288) (hg : group ≠ 0)
    (ha : Came w a b off len cap) (hc : Bytes w b off us len) (hus : us.length = len) :
    Calls Try.prog 3 #[.string nm, .string al, .int .i64 ln, .int .i64 group, .slice a len cap] w fun e w' => e = .returned (.bool true) ∧ Below w.heap.size w w' := by
  have d1 : decide ((262144 : Int) < (nm.size : Int)) = false := by simp; omega
  have d2 : decide ((262144 : Int) < (al.size : Int)) = false := by simp; omega
  have d3 : decide ((524288 : Int) < (len : Int)) = false := by simp; omega
  have d4 : (group == 0) = false := by simpa using hg
  have hpp := per_pos group hg
  have hpl := per_le group
  have HU := hide hus
  clear hus
  go_enter Try.func3, Try.ntmps3
  go_wp2_with fail
  refine (zz6 nm al ln group a len cap _ (by unfold maxLen; omega) (by unfold maxLen; omega) (by unfold maxLen; omega)).mono ?_
  rintro e w0 ⟨bb, rfl, rfl⟩
  rcases bb with _ | _
  · go_wp2
    go_ret
    exact ⟨rfl, Below.refl _ _⟩
  · go_wp2_with fail
    refine (clone_any a b off len cap us _ h19 ha hc).mono ?_
    rintro e w1 ⟨a', g, c', rfl, ha', hlc, hc1, hB1⟩
    go_wp2_with fail
    refine (zzshow_any nm al ln group a' g len c' us _ h19 hg ha' hc1).mono ?_
    rintro e w2 ⟨rfl, hB2⟩
    have HB : Hid (Below w.heap.size w w2) := hB1.trans (hB2.mono hB1.size)
    have HA2 : Hid (0 < len → a' = some ⟨g, 0, none⟩ ∧ g < w2.heap.size) := fun h => ⟨(ha' h).1, Nat.lt_of_lt_of_le (ha' h).2 hB2.size⟩
    have HC2 := hide (hc1.later hB2 (fun h => (ha' h).2))
    clear ha' hc1 hB1 hB2 hc ha
    go_wp2_with fail
    refine (period_any group _ hg).mono ?_
    rintro e w3 ⟨rfl, hw3⟩
    have hw3 := hw3.symm
    subst hw3
    go_wp2_with fail
    refine (chunk_any a' g len c' (per group) us _ h19 HU.out hlc hpp hpl HA2.out HC2.out).mono ?_
    rintro e w4 ⟨rfl, hB4⟩
    go_wp2
    go_ret
    exact ⟨by simp, HB.out.trans (hB4.mono HB.out.size)⟩
end Go.Proofs.Qxb6601858a
