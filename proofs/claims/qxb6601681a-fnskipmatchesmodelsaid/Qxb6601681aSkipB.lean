import Derived.Test.Qxb6601681aSkipA
namespace Go.Proofs.Qxb6601681a
open Go.RowKit
set_option linter.unusedSimpArgs false
set_option linter.unusedVariables false

set_option maxHeartbeats 2000000 in
/-- skip at a bracket. -/
theorem skip_bracket (c g n cap a r : Nat) (ts : List Int) (w : World) (hn : ts.length = n) (h20 : n ≤ 1048576) (hnc : n ≤ cap) (hgc : g ≠ c) (ha : a < n) (h : Cur w c g n cap ts a) (hx : ts.getD a 0 = 123 ∨ ts.getD a 0 = 91) (HE : Hid (sc (ts.drop a) none 0 a = some r)) :
    Calls Try.prog 28 #[.pointer (some ⟨c, 0, none⟩)] w fun en w' => en = .returned (.tuple #[]) ∧ Moved c w w' ∧ w'.cell? ⟨c, 1, none⟩ = some (.int .i64 (r : Nat)) := by
  have hm0 := Moved.refl c w
  have HC0 : Hid (Cur w c g n cap ts a) := h
  obtain ⟨h0, h1, hf, hc⟩ := h
  have hcx := hc a ha
  rw [Nat.zero_add] at hcx
  obtain ⟨x, e⟩ : ∃ x, ts.getD a 0 = x := ⟨_, rfl⟩
  have HX : Hid (ts.getD a 0 = 123 ∨ ts.getD a 0 = 91) := hx
  rw [e] at hcx hx
  have hx' : (x == 34) = false := by simp; omega
  clear e
  rcases hx with rfl | rfl
  all_goals
    go_enter Try.func28, Try.ntmps28
    go_wp2
    go_quiet (fail)
    go_wp2_with fail
    go_loopw [2] (fun d wr => ∃ j k : Nat, a ≤ j ∧ wr.cell? ⟨c, 1, none⟩ = some (.int .i64 j) ∧ d = .int .i64 k ∧ k ≤ j ∧ (1 ≤ k ∨ Hid (ts.getD j 0 = 123 ∨ ts.getD j 0 = 91)) ∧ Moved c w wr ∧ Hid (sc (ts.drop j) none k j = some r)) (fun _ wr => n - curAt wr c)
    case atStart => exact ⟨a, 0, Nat.le_refl _, h1, rfl, Nat.zero_le _, Or.inr HX, hm0.drewN _, HE⟩
    case round =>
      clear hcx hx' HE HX
      obtain ⟨j, k, hj, hp, rfl, hk, hpos, hm, HR⟩ := hrel
      have hlt : j < n := by rw [← hn]; exact sc_some ts none k j r HR.out
      have hb : Bytes wr g 0 ts n := hm.bytes hgc hc
      have k0 : wr.cell? ⟨c, 0, none⟩ = some (.slice (some ⟨g, 0, none⟩) n cap) := hm.cell0.trans h0
      have kf : wr.frozen? ⟨c, 1, none⟩ = false := hm.frz.trans hf
      have hcx := hb j hlt
      rw [Nat.zero_add] at hcx
      obtain ⟨x, hx⟩ : ∃ x, ts.getD j 0 = x := ⟨_, rfl⟩
      rw [hx] at hcx hpos
      have HP : Hid (∀ q, (wr.drewN q).cell? ⟨c, 1, none⟩ = some (.int .i64 j)) := fun _ => hp
      have HC : Hid (curAt wr c = j) := by rw [Hid, curAt_of hp]; simp
      have HCr : Hid (∀ q, Cur (wr.drewN q) c g n cap ts j) := fun q => HC0.out.moved hgc (hm.drewN q) hp
      clear h0 h1 hf hc hm0 hb HC0
      by_cases c34 : x = 34
      · subst c34
        have hk1 : 1 ≤ k := by rcases hpos with h | h; exact h; have := h.out; omega
        have hsq := sc_quote ts k j (by omega) hx
        rcases hcl : close (ts.drop (j + 1)) 0 (j + 1) with _ | e
        · exfalso
          have := HR.out
          rw [hsq, sc_unclosed ts k _ (j + 1) 0 rfl hcl] at this
          cases this
        · have HE : Hid (close (ts.drop (j + 1)) 0 (j + 1) = some e) := hcl
          have hrg := close_range ts _ (j + 1) 0 e rfl hcl
          have HR' : Hid (sc (ts.drop (e + 1)) none k (e + 1) = some r) := by rw [← HR.out, hsq]; exact (sc_close ts k _ (j + 1) 0 e rfl hcl).symm
          clear HR hx hsq hcl hpos
          go_wp2
          go_quiet (fail)
          go_wp2_with (go_at_call 26; refine (pass_any c g n cap j e ts _ hn h20 hnc hgc (HCr.out _) HE).mono ?_; rintro en w1 ⟨rfl, hm1, hp1⟩)
          go_roundw
          case rel => exact ⟨e + 1, k, by omega, hp1, rfl, by omega, Or.inl hk1, (hm.drewN _).trans hm1, HR'⟩
          case measure => rw [curAt_of hp1, HC.out]; omega
      · have c34' : (x == 34) = false := by simpa using c34
        by_cases cop : x = 123 ∨ x = 91
        · have HR' : Hid (sc (ts.drop (j + 1)) none ((k + 1 : Nat) : Int) (j + 1) = some r) := by rw [← HR.out, sc_open ts k j (by omega) (by omega)]; simp [Hid]
          have hnz : ((k : Int) + 1 == 0) = false := by simp; omega
          clear HR hx hpos
          rcases cop with rfl | rfl
          all_goals
            go_wp2
            go_quiet (fail)
            go_wp2
            go_roundw
            case rel => exact ⟨j + 1, k + 1, by omega, by rw [World.cell?_setCell_same _ _ _ (HP.out _)]; simp, by go_num, by omega, Or.inl (by omega), (hm.drewN _).setCell _, HR'⟩
            case measure => rw [curAt_of (World.cell?_setCell_same _ _ _ (HP.out _)), HC.out]; omega
        · have hk1 : 1 ≤ k := by rcases hpos with h | h; exact h; exact absurd h.out cop
          have co1 : (x == 123) = false := by simp; omega
          have co2 : (x == 91) = false := by simp; omega
          by_cases cs : x = 125 ∨ x = 93
          · have hs := sc_shut ts k j (by omega) (by omega)
            by_cases hk2 : k = 1
            · subst hk2
              have HJ : Hid (j + 1 = r) := by rw [HR.out] at hs; show j + 1 = r; simpa using hs.symm
              clear HR hx hpos cop co1 co2 hs c34'
              rcases cs with rfl | rfl
              all_goals
                go_wp2
                go_quiet (fail)
                go_wp2
                first | go_end0 | refine bodyPost_ret (results_none rfl _ _ _) rfl ?_
                rw [← HJ.out]
                exact ⟨rfl, (hm.drewN _).setCell _, by rw [World.cell?_setCell_same _ _ _ (HP.out _)]; simp⟩
            · obtain ⟨k', rfl⟩ : ∃ k', k = k' + 2 := ⟨k - 2, by omega⟩
              have HR' : Hid (sc (ts.drop (j + 1)) none ((k' + 1 : Nat) : Int) (j + 1) = some r) := by
                rw [HR.out, if_neg (by omega)] at hs; rw [hs, Hid]; congr 1; omega
              have hnz : ((k' : Int) + 2 - 1 == 0) = false := by simp; omega
              clear HR hx hpos cop co1 co2 hs c34'
              rcases cs with rfl | rfl
              all_goals
                go_wp2
                go_quiet (fail)
                go_wp2
                go_roundw
                case rel => exact ⟨j + 1, k' + 1, by omega, by rw [World.cell?_setCell_same _ _ _ (HP.out _)]; simp, by go_num, by omega, Or.inl (by omega), (hm.drewN _).setCell _, HR'⟩
                case measure => rw [curAt_of (World.cell?_setCell_same _ _ _ (HP.out _)), HC.out]; omega
          · have cs1 : (x == 125) = false := by simp; omega
            have cs2 : (x == 93) = false := by simp; omega
            have hnz : ((k : Int) == 0) = false := by simp; omega
            have HR' : Hid (sc (ts.drop (j + 1)) none (k : Int) (j + 1) = some r) := by rw [← HR.out]; exact (sc_other ts k j (by omega) (by omega) (by omega) (by omega)).symm
            clear HR hx hpos cop cs
            go_wp2
            go_quiet (fail)
            go_wp2
            go_roundw
            case rel => exact ⟨j + 1, k, by omega, by rw [World.cell?_setCell_same _ _ _ (HP.out _)]; simp, rfl, by omega, Or.inl (by omega), (hm.drewN _).setCell _, HR'⟩
            case measure => rw [curAt_of (World.cell?_setCell_same _ _ _ (HP.out _)), HC.out]; omega
end Go.Proofs.Qxb6601681a
