import Derived.Test.Qxb6601681aPass
import Derived.Test.Qxb6601681aPlainSkip
namespace Go.Proofs.Qxb6601681a
open Go.RowKit
set_option linter.unusedSimpArgs false
set_option linter.unusedVariables false

/-- skip at a string. -/
theorem skip_string (c g n cap a e : Nat) (ts : List Int) (w : World) (hn : ts.length = n) (h20 : n ≤ 1048576) (hnc : n ≤ cap) (hgc : g ≠ c) (ha : a < n) (h : Cur w c g n cap ts a) (hx : ts.getD a 0 = 34) (HE : Hid (close (ts.drop (a + 1)) 0 (a + 1) = some e)) :
    Calls Try.prog 28 #[.pointer (some ⟨c, 0, none⟩)] w fun en w' => en = .returned (.tuple #[]) ∧ Moved c w w' ∧ w'.cell? ⟨c, 1, none⟩ = some (.int .i64 (e + 1 : Nat)) := by
  have HC : Hid (∀ q, Cur (w.drewN q) c g n cap ts a) := fun q => h.moved hgc ((Moved.refl c w).drewN q) h.place
  have hm0 := Moved.refl c w
  obtain ⟨h0, h1, hf, hc⟩ := h
  have hcx := hc a ha
  rw [Nat.zero_add, hx] at hcx
  clear hx hc
  go_enter Try.func28, Try.ntmps28
  go_wp2
  go_quiet (fail)
  go_wp2_with (go_at_call 26; refine (pass_any c g n cap a e ts _ hn h20 hnc hgc (HC.out _) HE).mono ?_; rintro en w1 ⟨rfl, hm, hp⟩)
  go_end0
  exact ⟨rfl, (hm0.drewN _).trans hm, hp⟩

set_option maxHeartbeats 1000000 in
/-- skip at a scalar. -/
theorem skip_scalar (c g n cap a r : Nat) (ts : List Int) (w : World) (hn : ts.length = n) (h20 : n ≤ 1048576) (hnc : n ≤ cap) (hgc : g ≠ c) (ha : a < n) (h : Cur w c g n cap ts a) (hx : ts.getD a 0 ≠ 34) (hx1 : ts.getD a 0 ≠ 123) (hx2 : ts.getD a 0 ≠ 91) (HE : Hid (scal (ts.drop a) a = some r)) :
    Calls Try.prog 28 #[.pointer (some ⟨c, 0, none⟩)] w fun en w' => en = .returned (.tuple #[]) ∧ Moved c w w' ∧ w'.cell? ⟨c, 1, none⟩ = some (.int .i64 (r : Nat)) := by
  have hm0 := Moved.refl c w
  obtain ⟨h0, h1, hf, hc⟩ := h
  have hcx := hc a ha
  rw [Nat.zero_add] at hcx
  obtain ⟨x, e⟩ : ∃ x, ts.getD a 0 = x := ⟨_, rfl⟩
  rw [e] at hcx hx hx1 hx2
  have hx' : (x == 34) = false := by simpa using hx
  have hx1' : (x == 123) = false := by simpa using hx1
  have hx2' : (x == 91) = false := by simpa using hx2
  clear e
  go_enter Try.func28, Try.ntmps28
  go_wp2
  go_quiet (fail)
  go_wp2_with fail
  go_loopw [36] (fun _ wr => ∃ j : Nat, wr.cell? ⟨c, 1, none⟩ = some (.int .i64 j) ∧ Moved c w wr ∧ Hid (scal (ts.drop j) j = some r)) (fun _ wr => n - curAt wr c)
  case atStart => exact ⟨a, h1, hm0.drewN _, HE⟩
  case round =>
    clear hcx hx hx1 hx2 hx' hx1' hx2' HE
    obtain ⟨j, hp, hm, HR⟩ := hrel
    have hlt : j < n := by rw [← hn]; exact scal_some ts j r HR.out
    have hb : Bytes wr g 0 ts n := hm.bytes hgc hc
    have k0 : wr.cell? ⟨c, 0, none⟩ = some (.slice (some ⟨g, 0, none⟩) n cap) := hm.cell0.trans h0
    have kf : wr.frozen? ⟨c, 1, none⟩ = false := hm.frz.trans hf
    have hcx := hb j hlt
    rw [Nat.zero_add] at hcx
    obtain ⟨x, hx⟩ : ∃ x, ts.getD j 0 = x := ⟨_, rfl⟩
    rw [hx] at hcx
    have HP : Hid (∀ q, (wr.drewN q).cell? ⟨c, 1, none⟩ = some (.int .i64 j)) := fun _ => hp
    have HC : Hid (curAt wr c = j) := by rw [Hid, curAt_of hp]; simp
    clear h0 h1 hf hc hm0 hb
    by_cases h44 : x = 44
    · subst h44
      have HJ : Hid (j = r) := Option.some.inj ((scal_hit ts j (by omega) (Or.inl hx)).symm.trans HR.out)
      clear HR hx
      go_wp2
      go_quiet (fail)
      go_wp2
      go_end0
      rw [← HJ.out]
      exact ⟨rfl, hm.drewN _, hp⟩
    · have h44' : (x != 44) = true := by simpa using h44
      by_cases h125 : x = 125
      · subst h125
        have HJ : Hid (j = r) := Option.some.inj ((scal_hit ts j (by omega) (Or.inr hx)).symm.trans HR.out)
        clear HR hx
        go_wp2
        go_quiet (fail)
        go_wp2
        go_end0
        rw [← HJ.out]
        exact ⟨rfl, hm.drewN _, hp⟩
      · have h125' : (x != 125) = true := by simpa using h125
        have HR' : Hid (scal (ts.drop (j + 1)) (j + 1) = some r) := (scal_miss ts j (by omega) (by omega)).symm.trans HR.out
        clear HR hx
        go_wp2
        go_quiet (fail)
        go_wp2
        go_roundw
        case rel => exact ⟨j + 1, by rw [World.cell?_setCell_same _ _ _ (HP.out _)]; simp, (hm.drewN _).setCell _, HR'⟩
        case measure => rw [curAt_of (World.cell?_setCell_same _ _ _ (HP.out _)), HC.out]; omega
end Go.Proofs.Qxb6601681a
