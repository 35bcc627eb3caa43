import Derived.Test.Qxb6601858aParts
namespace Go.Proofs.Qxb6601858a
open Go.RowKit
set_option linter.unusedSimpArgs false
set_option linter.unusedVariables false

theorem out_size2 (us : List UInt8) (p n : Nat) (hp : 0 < p) : (⟨(outTo us p n).toArray⟩ : ByteArray).size = n + (n - 1) / p := by
  rw [← outTo_length us p hp n]; rfl
theorem out_at (us : List UInt8) (p n j : Nat) (hp : 0 < p) (S : ByteArray) (hS : S = ⟨(outTo us p n).toArray⟩) (hj : j < S.size) : S[j] = if (j + 1) % (p + 1) = 0 then 45 else us.getD (bk p j) 0 := by
  subst hS
  have hl : j < (outTo us p n).length := hj
  rw [← outTo_at us p hp n j hl]
  show (outTo us p n)[j] = _
  simp [hl]

theorem mod_num (j P : Nat) : ((j : Int) + 1) % ((P : Int) + 1) = (((j + 1) % (P + 1) : Nat) : Int) := by
  rw [Int.natCast_emod]; rfl
theorem bk_zero (p : Nat) : bk p 0 = 0 := by simp [bk]

set_option maxHeartbeats 2000000 in
theorem ungroup_in (nm al : ByteArray) (ln group : Int) (a : Option Addr) (b off len cap : Nat) (us : List UInt8) (w : World) (h1 : nm.size ≤ 262144) (h2 : al.size ≤ 262144) (h19 : len ≤ 524288) (hg : group ≠ 0)
    (ha : Came w a b off len cap) (hc : Bytes w b off us len) (hus : us.length = len) :
    Calls Try.prog 4 #[.string nm, .string al, .int .i64 ln, .int .i64 group, .slice a len cap] w fun e w' => e = .returned (.bool true) ∧ Below w.heap.size w w' := by
  have d1 : decide ((262144 : Int) < (nm.size : Int)) = false := by simp; omega
  have d2 : decide ((262144 : Int) < (al.size : Int)) = false := by simp; omega
  have d3 : decide ((524288 : Int) < (len : Int)) = false := by simp; omega
  have d4 : (group == 0) = false := by simpa using hg
  have hpp := per_pos group hg
  have hpl : per group ≤ 2097152 := by unfold per; omega
  obtain ⟨i0, hi, hz0, hz1, hz2⟩ := info_parts Try.info5
  have HU := hide hus
  clear hus
  go_enter Try.func4, Try.ntmps4
  go_wp2_with fail
  refine (zz11 nm al ln group a len cap _ (by unfold maxLen; omega) (by unfold maxLen; omega) (by unfold maxLen; omega)).mono ?_
  rintro e w0 ⟨bb, rfl, rfl⟩
  rcases bb with _ | _
  · go_wp2
    go_ret
    exact ⟨rfl, Below.refl _ _⟩
  · go_wp2_with fail
    refine (clone_any a b off len cap us _ h19 ha hc).mono ?_
    rintro e w1 ⟨a', g, c', rfl, ha', hlc, hc1, hB1⟩
    go_wp2_with fail
    refine (zzshow_any nm al ln group a' g len c' us _ h19 hg ha' hc1).mono ?_
    rintro e w2 ⟨rfl, hB2⟩
    have HB : Hid (Below w.heap.size w w2) := hB1.trans (hB2.mono hB1.size)
    have HA2 : Hid (0 < len → a' = some ⟨g, 0, none⟩ ∧ g < w2.heap.size) := fun h => ⟨(ha' h).1, Nat.lt_of_lt_of_le (ha' h).2 hB2.size⟩
    have HC2 := hide (hc1.later hB2 (fun h => (ha' h).2))
    obtain ⟨Q, hQ⟩ : ∃ Q : Nat, (len - 1) / per group = Q := ⟨_, rfl⟩
    have hQl : Q ≤ len := by rw [← hQ]; have := Nat.div_le_self (len - 1) (per group); omega
    have HQ := hide hQ
    have hS := out_size2 us (per group) len hpp
    have hat := fun j S hS hj => out_at us (per group) len j hpp S hS hj
    rw [hQ] at hS
    generalize hSe : (⟨(outTo us (per group) len).toArray⟩ : ByteArray) = S at hS hat ⊢
    have HAT : Hid (∀ j (hj : j < S.size), S[j] = if (j + 1) % (per group + 1) = 0 then 45 else us.getD (bk (per group) j) 0) := fun j hj => hat j S rfl hj
    have HS := hide hS
    clear hS hSe hat ha' hc1 hB1 hB2 hc ha hQ
    go_wp2_with fail
    refine (period_any group _ hg).mono ?_
    rintro e w3 ⟨rfl, hw3⟩
    have hw3 := hw3.symm
    subst hw3
    generalize per group = P at *
    go_wp2_with (at_make; refine wpList_make_own _ rfl _ _ 22 rfl w2.heap.size 5 i0 (.int .u8 0) 1 Try.underlying22 hi hz0 hz1 _ _ _ len rfl rfl rfl (by rw [hz2]; omega) (by unfold maxLen; omega) (Nat.le_refl _) ?_)
    intro w4 hown hgrow
    have hB4 : Below w2.heap.size w2 w4 := (Below.refl _ _).grown hgrow (Nat.le_refl _) (fun k h => by cases h)
    clear hgrow
    go_wp2_with fail
    go_loopw [13, 14] (fun v i wr => ∃ j : Nat, j ≤ len + Q ∧ i = .int .i64 j ∧ v = .slice (some ⟨w2.heap.size, 0, none⟩) (bk P j) len ∧ wr.ownsRow w2.heap.size 5 1 (.slice (some ⟨w2.heap.size, 0, none⟩) (bk P j) len) (bk P j) (Lib.byteCells (us.take (bk P j))) ∧ Below w2.heap.size w2 wr) (fun _ i _ => len + Q - (intOf i).toNat)
    case atStart => exact ⟨0, by omega, rfl, by rw [bk_zero], by rw [bk_zero]; simpa [Lib.byteCells] using hown, hB4⟩
    case round =>
      clear hown hB4
      obtain ⟨j, hj, rfl, rfl, hown, hB4⟩ := hrel
      have HO := hide hown
      have HL := hide hB4
      clear hown hB4
      have hbl : bk P j ≤ len := by
        have h1 := bk_mono P hpp j (len + Q - j)
        rw [show j + (len + Q - j) = len + Q by omega, ← HQ.out, bk_end P len hpp] at h1
        exact h1
      by_cases hlt : j < len + Q
      · have hjs : j < S.size := by rw [HS.out]; exact hlt
        have hszI : (j : Int) < (S.size : Int) := by omega
        have hat := HAT.out j hjs
        by_cases hr : (j + 1) % (P + 1) = 0
        · have hrm : (((j : Int) + 1) % ((P : Int) + 1) == 0) = true := by rw [beq_iff_eq, mod_num, hr]; rfl
          rw [if_pos hr] at hat
          have HK : Hid (bk P (j + 1) = bk P j) := bk_step_dash P j hr
          clear hr HAT HS
          go_wp2
          go_roundw
          case rel => exact ⟨j + 1, by omega, by go_num, by rw [HK.out], by rw [HK.out]; exact HO.out, HL.out⟩
          case measure => simp [intOf]; omega
        · have hrm : (((j : Int) + 1) % ((P : Int) + 1) == 0) = false := by rw [beq_eq_false_iff_ne, mod_num]; omega
          rw [if_neg hr] at hat
          have hbk : bk P j < len := bk_lt P len j hpp (by rw [HQ.out]; exact hlt) hr
          have HK : Hid (bk P (j + 1) = bk P j + 1) := bk_step P j hpp hr
          have HT : Hid (us.take (bk P j + 1) = us.take (bk P j) ++ [us.getD (bk P j) 0]) := by
            have := take_drop_succ us 0 (bk P j) (by rw [HU.out]; omega)
            show us.take (bk P j + 1) = us.take (bk P j) ++ [us.getD (bk P j) 0]
            simpa using this
          obtain ⟨x, hx⟩ : ∃ x, us.getD (bk P j) 0 = x := ⟨_, rfl⟩
          rw [hx] at hat HT
          generalize hkk : bk P j = kk at *
          clear hr HAT HS hx hkk
          go_wp2_with (at_builtin; refine wpList_append_fits _ rfl (.tmp 66) (.tmp 70) 22 rfl w2.heap.size 5 i0 1 Try.underlying22 hi hz1 w2.heap.size kk len _ rfl (HO.out.alloc _) ⟨wr.heap.size, 0, none⟩ 1 1 [.int .u8 (x.toNat : Int)] rfl rfl ?c1 ?c2 ?c3 ?_)
          case c1 => exact cell_one_new _ _ _
          case c2 => intro u hu; simp at hu; subst hu; rfl
          case c3 => omega
          intro w5 hown5 hgrow5
          have HO5 : Hid (w5.ownsRow w2.heap.size 5 1 (.slice (some ⟨w2.heap.size, 0, none⟩) (kk + 1) len) (kk + 1) (Lib.byteCells (us.take (kk + 1)))) := by
            rw [HT.out, Lib.byteCells_append]; exact hown5
          have HL5 : Hid (Below w2.heap.size w2 w5) := (HL.out.alloc HL.out.size _).grown hgrow5 (by have := HL.out.size; simp; omega) (fun k hk => by cases hk; exact Nat.le_refl _)
          clear hown5 hgrow5
          go_wp2
          go_roundw
          case rel => exact ⟨j + 1, by omega, by go_num, by rw [HK.out], by rw [HK.out]; exact HO5.out, HL5.out⟩
          case measure => simp [intOf]; omega
      · have hje : j = len + Q := by omega
        have hbe : bk P j = len := by rw [hje, ← HQ.out]; exact bk_end P len hpp
        have HO2 : Hid (Bytes wr w2.heap.size 0 us len) := fun i h => by
          have h2 := HO.out
          rw [hbe] at h2
          rw [Nat.zero_add, h2.cellAt i (by omega)]
          simp [Lib.byteCells, h]
          exact ⟨us[i]'(by rw [HU.out]; exact h), by simp [HU.out, h], by simp [HU.out, h]⟩
        have hsz : (S.size : Int) ≤ (j : Int) := by have := HS.out; omega
        have HC3 := hide (HC2.out.later HL.out (fun h => (HA2.out h).2))
        clear hje HO HS HAT
        rw [hbe]
        clear hbe hbl
        go_wp2_with fail
        refine (same_any _ a' w2.heap.size g len len c' us _ h19 (fun _ => rfl) (fun h => (HA2.out h).1) HO2.out HC3.out).mono ?_
        rintro e w6 ⟨rfl, hB6⟩
        go_wp2
        go_ret
        exact ⟨rfl, (HB.out.trans (HL.out.mono HB.out.size)).trans (hB6.mono (Nat.le_trans HB.out.size HL.out.size))⟩
end Go.Proofs.Qxb6601858a
