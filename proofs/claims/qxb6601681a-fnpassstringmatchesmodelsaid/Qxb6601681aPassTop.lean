import Derived.Test.Qxb6601681aPass
namespace Go.Proofs.Qxb6601681a
open Go.RowKit

theorem close_some (g n cap a e : Nat) (ts : List Int) (w : World) (hn : ts.length = n) (h20 : n ≤ 1048576) (ha : a < n) (hc : Bytes w g 0 ts n) (HR : Hid (close (ts.drop (a + 1)) 0 (a + 1) = some e)) :
    Calls Try.prog 11 #[.slice (some ⟨g, 0, none⟩) n cap, .int .i64 a] w fun en w' => en = .returned (.tuple #[.int .i64 e, .bool true]) ∧ w' = w := close_any g n cap a ts w (some e) hn h20 ha hc HR
theorem close_none (g n cap a : Nat) (ts : List Int) (w : World) (hn : ts.length = n) (h20 : n ≤ 1048576) (ha : a < n) (hc : Bytes w g 0 ts n) (HR : Hid (close (ts.drop (a + 1)) 0 (a + 1) = .none)) :
    Calls Try.prog 11 #[.slice (some ⟨g, 0, none⟩) n cap, .int .i64 a] w fun en w' => en = .returned (.tuple #[.int .i64 0, .bool false]) ∧ w' = w := close_any g n cap a ts w .none hn h20 ha hc HR

theorem bytes_take {w : World} {b off len : Nat} {zs : List Int} (h : ∀ i, i < len → w.cell? ⟨b, off + i, none⟩ = some (.int .u8 (zs.getD i 0))) : Bytes w b off (zs.take len) len := by
  intro i hi
  rw [h i hi]
  simp [hi]

theorem bytes_drop {w : World} {g a n m : Nat} {ts : List Int} (h : Bytes w g 0 ts n) (hm : a + m ≤ n) : Bytes w g a (ts.drop a) m := by
  intro i hi
  have := h (a + i) (by omega)
  rw [Nat.zero_add] at this
  rw [this]
  simp

set_option maxHeartbeats 1000000 in
theorem walk_in (b off len0 cap0 : Nat) (ts : List Int) (a : Nat) (w : World) (hb : b < w.heap.size) (hts : ts.length = len0) (h20 : len0 ≤ 1048576) (ha : a < len0) (hc : Bytes w b off ts len0) :
    Calls Try.prog 3 #[.slice (some ⟨b, off, none⟩) len0 cap0, .int .i64 a] w fun e w' => e = .returned (.bool true) ∧ Below w.heap.size w w' := by
  have ha0 : ¬ ((a : Int) < 0) := by omega
  have hd20 : decide ((1048576 : Int) < (len0 : Int)) = false := by simp; omega
  have ha0' : decide ((a : Int) < 0) = false := by simp
  rcases hR : close (ts.drop (a + 1)) 0 (a + 1) with _ | e
  · have HR : Hid _ := hR
    clear hR
    go_enter Try.func3, Try.ntmps3
    go_wp2_with (go_at_call 9; refine (zz_yes _ _ _ _ _ h20).mono ?_; rintro en w' ⟨rfl, rfl⟩)
    refine (copy_any b off len0 cap0 ts _ h20 hb hc).mono ?_
    rintro en w1 ⟨g, rfl, hg1, hg2, hb1, hbel⟩
    go_wp2_with fail
    refine (close_none g len0 len0 a ts _ hts h20 ha hb1 HR).mono ?_
    rintro en w' ⟨rfl, rfl⟩
    go_wp2
    go_ret
    exact ⟨rfl, hbel⟩
  · have HR : Hid _ := hR
    have hr := close_range ts _ (a + 1) 0 e rfl hR
    clear hR
    go_enter Try.func3, Try.ntmps3
    go_wp2_with (go_at_call 9; refine (zz_yes _ _ _ _ _ h20).mono ?_; rintro en w' ⟨rfl, rfl⟩)
    refine (copy_any b off len0 cap0 ts _ h20 hb hc).mono ?_
    rintro en w1 ⟨g, rfl, hg1, hg2, hb1, hbel⟩
    go_wp2_with fail
    refine (close_some g len0 len0 a e ts _ hts h20 ha hb1 HR).mono ?_
    rintro en w' ⟨rfl, rfl⟩
    go_wp2_with fail
    refine (zzpass_any g len0 len0 a e ts _ hts h20 (Nat.le_refl _) hg2 hb1 HR).mono ?_
    rintro en w2 ⟨rfl, hbel2⟩
    have hb2 : Bytes w2 g 0 ts len0 := fun i hi => (hbel2.cell (p := ⟨g, 0 + i, none⟩) hg2).trans (hb1 i hi)
    have hB := hbel.trans (hbel2.mono hbel.size)
    go_wp2_with fail
    refine (same_self g a (e + 1 - a) (len0 - a) (ts.drop a) _ (by omega) (bytes_drop hb2 (by omega))).mono ?_
    rintro en w3 ⟨rfl, q, rfl⟩
    clear hb1 hbel hbel2 hc
    go_wp2_with fail
    go_loop [10, 11] (fun p j => ∃ k : Nat, a < k ∧ k ≤ e ∧ j = .int .i64 k ∧ p = .bool (noBs ts (a + 1) k)) (fun _ j => e - (intOf j).toNat)
    case atStart => exact ⟨a + 1, by omega, by omega, by go_num, by rw [noBs_start ts (a + 1) (a + 1) (Nat.le_refl _)]⟩
    case round =>
      obtain ⟨k, hk1, hk2, rfl, rfl⟩ := hrel
      by_cases hlt : k < e
      · have hcx := hb2 k (by omega)
        rw [Nat.zero_add] at hcx
        obtain ⟨x, hx⟩ : ∃ x, ts.getD k 0 = x := ⟨_, rfl⟩
        rw [hx] at hcx
        by_cases h92 : x = 92
        · subst h92
          have HB : Hid (noBs ts (a + 1) (k + 1) = false) := noBs_hit ts (a + 1) k (by omega) hx
          clear hx hb2
          go_wp2
          go_round
          case rel => exact ⟨k + 1, by omega, by omega, by go_num, by rw [HB.out]⟩
          case measure => simp [intOf]; omega
        · have h92' : (x == 92) = false := by simpa using h92
          have HB : Hid (noBs ts (a + 1) (k + 1) = noBs ts (a + 1) k) := noBs_step ts (a + 1) k (by omega) (by omega)
          clear hx hb2
          go_wp2
          go_round
          case rel => exact ⟨k + 1, by omega, by omega, by go_num, by rw [HB.out]⟩
          case measure => simp [intOf]; omega
      · have HK : Hid (k = e) := by unfold Hid; omega
        clear hb2
        go_wp2
        go_ret
        rw [← HK.out]
        exact ⟨by simp, hB.trans ⟨rfl, rfl, rfl, Nat.le_refl _, fun _ _ => rfl⟩⟩

end Go.Proofs.Qxb6601681a
