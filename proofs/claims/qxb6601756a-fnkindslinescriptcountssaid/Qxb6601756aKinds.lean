import Derived.Test.Qxb6601756aParts
namespace Go.Proofs.Qxb6601756a
open Go.RowKit
set_option linter.unusedSimpArgs false
set_option linter.unusedVariables false

theorem ints_start2 (w : World) (B : Nat) (zs : List Int) : Ints w B 0 zs 0 := fun i hi => absurd hi (Nat.not_lt_zero _)

set_option maxHeartbeats 2000000 in
theorem kinds_in (x : Addr) (b off len cap : Nat) (zs : List Int) (w : World) (h17 : len ≤ 131072) (hx : 0 < len → x = ⟨b, off, none⟩ ∧ b < w.heap.size) (hc : Ints w b off zs len) :
    Calls Try.prog 4 #[.slice (some x) len cap] w fun e w' => e = .returned (.bool true) ∧ Below w.heap.size w w' := by
  obtain ⟨i0, hi, hz0, hz1, hz2⟩ := info_parts Try.info3
  have q22 : ∀ (w : World) (a : Option Addr) (n c n' c' : Nat), (binOp .neq 22 (.slice a n c) (.slice none n' c')).run Try.prog w = .ok (.bool (!a.isNone)) w := fun w a n c n' c' => run_neq_slice_nil_any w _ _ a n c n' c' Try.underlying22
  have h20 : decide ((131072 : Int) < (len : Int)) = false := by simp; omega
  go_enter Try.func4, Try.ntmps4
  go_wp2_with (first | (go_at_call 7; refine (zzk _ _ _ _ (by omega)).mono ?_; rintro en w' ⟨rfl, hw⟩; have hw := hw.symm; subst hw) | (at_make; refine wpList_make_full _ rfl _ _ 22 rfl _ 3 i0 (.int .i64 0) 1 Try.underlying22 hi hz0 hz1 _ _ _ _ len rfl rfl rfl rfl (by rw [hz2]; omega) (by unfold maxLen; omega) (Nat.le_refl _) ?_))
  intro w1 hown hgrow
  have hO : Owned w1 w.heap.size len := ⟨_, hown⟩
  have hB : Below w.heap.size w w1 := (Below.refl _ _).grown hgrow (Nat.le_refl _) (fun k h => by cases h)
  clear hown hgrow
  go_wp2
  go_loopw [4] (fun i wr => ∃ k : Nat, k ≤ len ∧ i = .int .i64 k ∧ Owned wr w.heap.size len ∧ Ints wr w.heap.size 0 zs k ∧ Below w.heap.size w wr) (fun i _ => len - (intOf i).toNat)
  case atStart => exact ⟨0, Nat.zero_le _, rfl, hO, ints_start2 _ _ _, hB⟩
  case round =>
    obtain ⟨k, hk, rfl, hOr, hI, hbel⟩ := hrel
    clear hO hB
    by_cases hlt : k < len
    · obtain ⟨rfl, hb⟩ := hx (by omega)
      have hcx : wr.cell? ⟨b, off + k, none⟩ = some (.int .i64 (zs.getD k 0)) := (hbel.cell (by exact hb)).trans (hc k hlt)
      obtain ⟨u, hu⟩ := hOr.at k hlt
      have hfr := hOr.frozen k
      have R1 := hOr.set k (.int .i64 (zs.getD k 0))
      have R2 := hI.step ⟨u, hu⟩
      have R3 := hbel.setCell (p := ⟨w.heap.size, k, none⟩) (Nat.le_refl _) (.int .i64 (zs.getD k 0))
      clear hOr hI hbel hx
      go_wp2
      go_roundw
      case rel => exact ⟨k + 1, by omega, by go_num, R1, R2, R3⟩
      case measure => simp [intOf]; omega
    · obtain ⟨L, hL⟩ : ∃ L, k = L := ⟨_, rfl⟩
      have : len = L := by omega
      subst hL
      subst this
      have hlt0 : 0 < len → w.heap.size < wr.heap.size := fun _ => hOr.lt
      clear hx hc hOr
      go_wp2
      go_loopw [5, 6, 7, 8] (fun s o n i wr => ∃ k : Nat, k ≤ len ∧ i = .int .i64 k ∧ s = .int .i64 (cn 1 zs k : Nat) ∧ o = .int .i64 (cn 2 zs k : Nat) ∧ n = .int .i64 (co zs k : Nat) ∧ Ints wr w.heap.size 0 zs len ∧ (0 < len → w.heap.size < wr.heap.size) ∧ Below w.heap.size w wr) (fun _ _ _ i _ => len - (intOf i).toNat)
      case atStart => exact ⟨0, Nat.zero_le _, rfl, rfl, rfl, rfl, hI, hlt0, hbel⟩
      case round =>
        clear hI hlt0 hbel
        obtain ⟨k, hk, rfl, rfl, rfl, rfl, hI, hlt0, hbel⟩ := hrel
        have hsum := c_sum zs k
        have e1 : cn 1 zs k ≤ k := by omega
        have e2 : cn 2 zs k ≤ k := by omega
        have e3 : co zs k ≤ k := by omega
        clear hsum
        by_cases hlt : k < len
        · have hcx := hI k hlt
          have hsz := hlt0 (by omega)
          rw [Nat.zero_add] at hcx
          obtain ⟨y, hy⟩ : ∃ y, zs.getD k 0 = y := ⟨_, rfl⟩
          rw [hy] at hcx
          have HI : Hid _ := hI
          have HL : Hid _ := hbel
          clear hI hbel hlt0
          by_cases y1 : y = 1
          · have f1 := cn_hit 1 zs k (by omega)
            have f2 := cn_miss 2 zs k (by omega)
            have f3 := co_miss zs k (by omega)
            subst y1
            have HF : Hid (cn 1 zs (k + 1) = cn 1 zs k + 1 ∧ cn 2 zs (k + 1) = cn 2 zs k ∧ co zs (k + 1) = co zs k) := ⟨f1, f2, f3⟩
            clear f1 f2 f3 hy
            go_wp2_with (go_at_call 8; refine (kadd_csca _ _ _ _ (by omega) (by omega) (by omega)).mono ?_; rintro en w2 ⟨rfl, hb2⟩)
            obtain ⟨f1, f2, f3⟩ := HF.out
            go_roundw
            case rel => exact ⟨k + 1, by omega, by go_num, by rw [f1]; go_num, by rw [f2], by rw [f3], Ints.later HI.out hb2 hsz, fun _ => Nat.lt_of_lt_of_le hsz hb2.size, HL.out.trans (hb2.mono HL.out.size)⟩
            case measure => simp [intOf]; omega
          · have y1' : (y == 1) = false := by simpa using y1
            by_cases y2 : y = 2
            · have f1 := cn_miss 1 zs k (by omega)
              have f2 := cn_hit 2 zs k (by omega)
              have f3 := co_miss zs k (by omega)
              subst y2
              have HF : Hid (cn 1 zs (k + 1) = cn 1 zs k ∧ cn 2 zs (k + 1) = cn 2 zs k + 1 ∧ co zs (k + 1) = co zs k) := ⟨f1, f2, f3⟩
              clear f1 f2 f3 hy
              go_wp2_with (go_at_call 8; refine (kadd_link _ _ _ _ (by omega) (by omega) (by omega)).mono ?_; rintro en w2 ⟨rfl, hb2⟩)
              obtain ⟨f1, f2, f3⟩ := HF.out
              go_roundw
              case rel => exact ⟨k + 1, by omega, by go_num, by rw [f1], by rw [f2]; go_num, by rw [f3], Ints.later HI.out hb2 hsz, fun _ => Nat.lt_of_lt_of_le hsz hb2.size, HL.out.trans (hb2.mono HL.out.size)⟩
              case measure => simp [intOf]; omega
            · have y2' : (y == 2) = false := by simpa using y2
              have f1 := cn_miss 1 zs k (by omega)
              have f2 := cn_miss 2 zs k (by omega)
              have f3 := co_hit zs k (by omega)
              have HF : Hid (cn 1 zs (k + 1) = cn 1 zs k ∧ cn 2 zs (k + 1) = cn 2 zs k ∧ co zs (k + 1) = co zs k + 1) := ⟨f1, f2, f3⟩
              clear f1 f2 f3 hy
              go_wp2_with (go_at_call 8; refine (kadd_other _ _ _ y y1' y2' _ (by omega) (by omega) (by omega)).mono ?_; rintro en w2 ⟨rfl, hb2⟩)
              obtain ⟨f1, f2, f3⟩ := HF.out
              go_roundw
              case rel => exact ⟨k + 1, by omega, by go_num, by rw [f1], by rw [f2], by rw [f3]; go_num, Ints.later HI.out hb2 hsz, fun _ => Nat.lt_of_lt_of_le hsz hb2.size, HL.out.trans (hb2.mono HL.out.size)⟩
              case measure => simp [intOf]; omega
        · have : k = len := by omega
          subst this
          clear hlt0
          have HL : Hid _ := hbel
          clear hbel
          go_wp2
          go_loop [9, 10, 11, 12] (fun s o n i => ∃ j : Nat, j ≤ k ∧ i = .int .i64 j ∧ s = .int .i64 (cn 1 zs j : Nat) ∧ o = .int .i64 (cn 2 zs j : Nat) ∧ n = .int .i64 (co zs j : Nat)) (fun _ _ _ i => k - (intOf i).toNat)
          case atStart => exact ⟨0, Nat.zero_le _, rfl, rfl, rfl, rfl⟩
          case round =>
            obtain ⟨j, hj, rfl, rfl, rfl, rfl⟩ := hrel
            have hsumj := c_sum zs j
            have g1 : cn 1 zs j ≤ j := by omega
            have g2 : cn 2 zs j ≤ j := by omega
            have g3 : co zs j ≤ j := by omega
            clear hsumj
            by_cases hlt : j < k
            · have hcx := hI j hlt
              rw [Nat.zero_add] at hcx
              obtain ⟨y, hy⟩ : ∃ y, zs.getD j 0 = y := ⟨_, rfl⟩
              rw [hy] at hcx
              clear hI
              by_cases y1 : y = 1
              · have HF : Hid (cn 1 zs (j + 1) = cn 1 zs j + 1 ∧ cn 2 zs (j + 1) = cn 2 zs j ∧ co zs (j + 1) = co zs j) := ⟨cn_hit 1 zs j (by omega), cn_miss 2 zs j (by omega), co_miss zs j (by omega)⟩
                subst y1
                clear hy
                go_wp2
                obtain ⟨f1, f2, f3⟩ := HF.out
                go_round
                case rel => exact ⟨j + 1, by omega, by go_num, by rw [f1]; go_num, by rw [f2], by rw [f3]⟩
                case measure => simp [intOf]; omega
              · have y1' : (y == 1) = false := by simpa using y1
                by_cases y2 : y = 2
                · have HF : Hid (cn 1 zs (j + 1) = cn 1 zs j ∧ cn 2 zs (j + 1) = cn 2 zs j + 1 ∧ co zs (j + 1) = co zs j) := ⟨cn_miss 1 zs j (by omega), cn_hit 2 zs j (by omega), co_miss zs j (by omega)⟩
                  subst y2
                  clear hy
                  go_wp2
                  obtain ⟨f1, f2, f3⟩ := HF.out
                  go_round
                  case rel => exact ⟨j + 1, by omega, by go_num, by rw [f1], by rw [f2]; go_num, by rw [f3]⟩
                  case measure => simp [intOf]; omega
                · have y2' : (y == 2) = false := by simpa using y2
                  have HF : Hid (cn 1 zs (j + 1) = cn 1 zs j ∧ cn 2 zs (j + 1) = cn 2 zs j ∧ co zs (j + 1) = co zs j + 1) := ⟨cn_miss 1 zs j (by omega), cn_miss 2 zs j (by omega), co_hit zs j (by omega)⟩
                  clear hy
                  go_wp2
                  obtain ⟨f1, f2, f3⟩ := HF.out
                  go_round
                  case rel => exact ⟨j + 1, by omega, by go_num, by rw [f1], by rw [f2], by rw [f3]; go_num⟩
                  case measure => simp [intOf]; omega
            · have : j = k := by omega
              subst this
              have hsum' := c_sum zs j
              have hd : ((cn 1 zs j : Int) + (cn 2 zs j : Int) + (co zs j : Int) == (j : Int)) = true := by simp; omega
              clear hI hsum'
              go_wp2
              go_ret
              exact ⟨rfl, HL.out⟩
end Go.Proofs.Qxb6601756a
