import Derived.Test.Qxb6601681aClose
namespace Go.Proofs.Qxb6601681a
open Go.RowKit
set_option linter.unusedSimpArgs false

/-- Nothing but the cursor's place (cell 1 of block c) has turned. -/
structure Moved (c : Nat) (w w' : World) : Prop where
  os : w'.os = w.os
  tape : w'.tape = w.tape
  output : w'.output = w.output
  size : w'.heap.size = w.heap.size
  block : ∀ k, k ≠ c → w'.heap[k]? = w.heap[k]?
  cell0 : w'.cell? ⟨c, 0, none⟩ = w.cell? ⟨c, 0, none⟩
  frz : w'.frozen? ⟨c, 1, none⟩ = w.frozen? ⟨c, 1, none⟩

theorem Moved.refl (c : Nat) (w : World) : Moved c w w := ⟨rfl, rfl, rfl, rfl, fun _ _ => rfl, rfl, rfl⟩
theorem Moved.trans {c : Nat} {a b d : World} (h : Moved c a b) (k : Moved c b d) : Moved c a d :=
  ⟨k.os.trans h.os, k.tape.trans h.tape, k.output.trans h.output, k.size.trans h.size, fun i hi => (k.block i hi).trans (h.block i hi), k.cell0.trans h.cell0, k.frz.trans h.frz⟩
theorem Moved.drew {c : Nat} {a w : World} (h : Moved c a w) : Moved c a w.drew := ⟨h.os, h.tape, h.output, h.size, h.block, h.cell0, h.frz⟩
theorem Moved.drewN {c : Nat} {a w : World} (h : Moved c a w) (n : Nat) : Moved c a (w.drewN n) := ⟨h.os, h.tape, h.output, h.size, h.block, h.cell0, h.frz⟩
theorem Moved.setCell {c : Nat} {a w : World} (h : Moved c a w) (v : Value) : Moved c a (w.setCell ⟨c, 1, none⟩ v) :=
  h.trans ⟨rfl, rfl, rfl, by simp [World.setCell], fun k hk => Below.heap_setCell _ _ _ _ hk, World.cell?_setCell_other _ _ _ _ (by simp), World.frozen?_setCell _ _ _ _⟩
theorem Moved.below {c B : Nat} {w w' : World} (h : Moved c w w') (hB : B ≤ c) : Below B w w' :=
  ⟨h.os, h.tape, h.output, Nat.le_of_eq h.size.symm, fun k hk => h.block k (by omega)⟩
theorem Moved.bytes {c g o n : Nat} {w w' : World} {ts : List Int} (h : Moved c w w') (hg : g ≠ c) (hb : Bytes w g o ts n) : Bytes w' g o ts n := by
  intro i hi
  rw [← hb i hi]
  exact World.cell?_of_block (w := w) (h.block g hg)

/-- The cursor's place. -/
def curAt (w : World) (c : Nat) : Nat := match w.cell? ⟨c, 1, none⟩ with | some (.int _ q) => q.toNat | _ => 0
theorem curAt_of {w : World} {c : Nat} {k : IntKind} {q : Int} (h : w.cell? ⟨c, 1, none⟩ = some (.int k q)) : curAt w c = q.toNat := by simp [curAt, h]

/-- A cursor over the text. -/
structure Cur (w : World) (c g n cap : Nat) (ts : List Int) (j : Nat) : Prop where
  text : w.cell? ⟨c, 0, none⟩ = some (.slice (some ⟨g, 0, none⟩) n cap)
  place : w.cell? ⟨c, 1, none⟩ = some (.int .i64 j)
  frz : w.frozen? ⟨c, 1, none⟩ = false
  bytes : Bytes w g 0 ts n

theorem Cur.moved {w w' : World} {c g n cap j j' : Nat} {ts : List Int} (h : Cur w c g n cap ts j) (hg : g ≠ c) (m : Moved c w w') (hp : w'.cell? ⟨c, 1, none⟩ = some (.int .i64 j')) : Cur w' c g n cap ts j' :=
  ⟨m.cell0.trans h.text, hp, m.frz.trans h.frz, m.bytes hg h.bytes⟩

set_option maxHeartbeats 1000000 in
theorem pass_any (c g n cap a e : Nat) (ts : List Int) (w : World) (hn : ts.length = n) (h20 : n ≤ 1048576) (hnc : n ≤ cap) (hgc : g ≠ c) (h : Cur w c g n cap ts a) (HE : Hid (close (ts.drop (a + 1)) 0 (a + 1) = some e)) :
    Calls Try.prog 26 #[.pointer (some ⟨c, 0, none⟩)] w fun en w' => en = .returned (.tuple #[.slice (some ⟨g, a, none⟩) (e + 1 - a) (cap - a), .bool (noBs ts (a + 1) e)]) ∧
      Moved c w w' ∧ w'.cell? ⟨c, 1, none⟩ = some (.int .i64 (e + 1 : Nat)) := by
  have hr := close_range ts _ (a + 1) 0 e rfl HE.out
  obtain ⟨h0, h1, hf, hc⟩ := h
  have hm0 := Moved.refl c w
  go_enter Try.func26, Try.ntmps26
  go_wp2
  go_loopw [3] (fun p wr => ∃ j : Nat, a < j ∧ wr.cell? ⟨c, 1, none⟩ = some (.int .i64 j) ∧ p = .bool (noBs ts (a + 1) j) ∧ Moved c w wr ∧ Hid (close (ts.drop j) 0 j = some e)) (fun _ wr => n - curAt wr c)
  case atStart => exact ⟨a + 1, by omega, by rw [World.cell?_setCell_same _ _ _ h1]; simp, by rw [noBs_start ts (a + 1) (a + 1) (Nat.le_refl _)], hm0.setCell _, HE⟩
  case round =>
    obtain ⟨j, hj, hp, rfl, hm, HR⟩ := hrel
    have hj2 := close_range ts _ j 0 e rfl HR.out
    have hb : Bytes wr g 0 ts n := hm.bytes hgc hc
    have k0 : wr.cell? ⟨c, 0, none⟩ = some (.slice (some ⟨g, 0, none⟩) n cap) := hm.cell0.trans h0
    have kf : wr.frozen? ⟨c, 1, none⟩ = false := hm.frz.trans hf
    have hlt : j < n := by omega
    have hcx := hb j hlt
    rw [Nat.zero_add] at hcx
    obtain ⟨x, hx⟩ : ∃ x, ts.getD j 0 = x := ⟨_, rfl⟩
    rw [hx] at hcx
    have HP : Hid (∀ q, (wr.drewN q).cell? ⟨c, 1, none⟩ = some (.int .i64 j)) := fun _ => hp
    have HC : Hid (curAt wr c = j) := by rw [Hid, curAt_of hp]; simp
    clear HE h0 h1 hf hc hm0 hb
    by_cases h34 : x = 34
    · subst h34
      have HJ : Hid (j = e) := Option.some.inj ((close_hit ts j 0 (by omega) hx rfl).symm.trans HR.out)
      clear HR hx
      go_wp2
      go_quiet (fail)
      go_wp2
      go_quiet (fail)
      go_wp2
      go_ret2
      rw [← HJ.out]
      exact ⟨rfl, ((hm.drewN _).setCell _).drewN _, by rw [World.cell?_drewN, World.cell?_setCell_same _ _ _ (HP.out _)]; simp⟩
    · by_cases h92 : x = 92
      · subst h92
        have HR' : Hid (close (ts.drop (j + 2)) 0 (j + 2) = some e) := close_esc ts j e (by omega) hx HR.out
        have HB : Hid (noBs ts (a + 1) (j + 2) = false) := noBs_false ts (a + 1) (j + 1) (noBs_hit ts (a + 1) j (by omega) hx)
        clear HR hx
        go_wp2
        go_quiet (fail)
        go_wp2
        go_quiet (fail)
        go_wp2
        go_roundw
        case rel => exact ⟨j + 2, by omega, by rw [World.cell?_setCell_same _ _ _ (World.cell?_setCell_same _ _ _ (HP.out _))]; congr 2, by rw [HB.out], ((hm.drewN _).setCell _).setCell _, HR'⟩
        case measure => rw [curAt_of (World.cell?_setCell_same _ _ _ (World.cell?_setCell_same _ _ _ (HP.out _))), HC.out]; omega
      · have h34' : (x == 34) = false := by simpa using h34
        have h92' : (x == 92) = false := by simpa using h92
        have HR' : Hid (close (ts.drop (j + 1)) 0 (j + 1) = some e) := (close_other ts j 0 (by omega) (by omega) (by omega)).symm.trans HR.out
        have HB : Hid (noBs ts (a + 1) (j + 1) = noBs ts (a + 1) j) := noBs_step ts (a + 1) j (by omega) (by omega)
        clear HR hx
        go_wp2
        go_quiet (fail)
        go_wp2
        go_quiet (fail)
        go_wp2
        go_roundw
        case rel => exact ⟨j + 1, by omega, by rw [World.cell?_setCell_same _ _ _ (HP.out _)]; simp, by rw [HB.out], (hm.drewN _).setCell _, HR'⟩
        case measure => rw [curAt_of (World.cell?_setCell_same _ _ _ (HP.out _)), HC.out]; omega

set_option maxHeartbeats 400000 in
theorem zzpass_any (g n cap a e : Nat) (ts : List Int) (w : World) (hn : ts.length = n) (h20 : n ≤ 1048576) (hnc : n ≤ cap) (hg : g < w.heap.size) (hc : Bytes w g 0 ts n) (HE : Hid (close (ts.drop (a + 1)) 0 (a + 1) = some e)) :
    Calls Try.prog 12 #[.slice (some ⟨g, 0, none⟩) n cap, .int .i64 a] w fun en w' =>
      en = .returned (.tuple #[.slice (some ⟨g, a, none⟩) (e + 1 - a) (cap - a), .bool (noBs ts (a + 1) e), .int .i64 (e + 1 : Nat)]) ∧ Below w.heap.size w w' := by
  have hcur : Cur (w.alloc (.cells #[.slice (some ⟨g, 0, none⟩) n cap, .int .i64 a] 46)) w.heap.size g n cap ts a :=
    ⟨by simp, by simp, by simp, fun i hi => (World.cell?_alloc_lt _ _ _ hg).trans (hc i hi)⟩
  have HC : Hid _ := hcur
  have hgne : g ≠ w.heap.size := by omega
  clear hcur hc
  go_enter Try.func12, Try.ntmps12
  go_wp2_with (go_at_call 26; refine (pass_any w.heap.size g n cap a e ts _ hn h20 hnc hgne HC.out HE).mono ?_; rintro en w1 ⟨rfl, hm, hp⟩)
  go_quiet (fail)
  go_wp2
  go_ret3
  exact ⟨rfl, (((Below.refl _ _).alloc (Nat.le_refl _) _).trans (hm.below (Nat.le_refl _))).trans ⟨rfl, rfl, rfl, Nat.le_refl _, fun _ _ => rfl⟩⟩
end Go.Proofs.Qxb6601681a
