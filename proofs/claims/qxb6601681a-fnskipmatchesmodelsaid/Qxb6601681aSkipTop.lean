import Derived.Test.Qxb6601681aSkipB
import Derived.Test.Qxb6601681aBracket
namespace Go.Proofs.Qxb6601681a
open Go.RowKit
set_option linter.unusedSimpArgs false
set_option linter.unusedVariables false

/-- Where the value at a ends. -/
def vend (ts : List Int) (a : Nat) : Option Nat :=
  if ts.getD a 0 = 34 then (close (ts.drop (a + 1)) 0 (a + 1)).map (· + 1)
  else if ts.getD a 0 = 123 ∨ ts.getD a 0 = 91 then sc (ts.drop a) none 0 a
  else scal (ts.drop a) a

/-- skip leaves the cursor where the value ends. -/
theorem skip_any (c g n cap a r : Nat) (ts : List Int) (w : World) (hn : ts.length = n) (h20 : n ≤ 1048576) (hnc : n ≤ cap) (hgc : g ≠ c) (ha : a < n) (h : Cur w c g n cap ts a) (HE : Hid (vend ts a = some r)) :
    Calls Try.prog 28 #[.pointer (some ⟨c, 0, none⟩)] w fun en w' => en = .returned (.tuple #[]) ∧ Moved c w w' ∧ w'.cell? ⟨c, 1, none⟩ = some (.int .i64 (r : Nat)) := by
  have hE := HE.out
  unfold vend at hE
  by_cases h34 : ts.getD a 0 = 34
  · rw [if_pos h34] at hE
    obtain ⟨e, he, rfl⟩ := Option.map_eq_some_iff.1 hE
    exact skip_string c g n cap a e ts w hn h20 hnc hgc ha h h34 he
  · rw [if_neg h34] at hE
    by_cases hb : ts.getD a 0 = 123 ∨ ts.getD a 0 = 91
    · rw [if_pos hb] at hE
      exact skip_bracket c g n cap a r ts w hn h20 hnc hgc ha h hb hE
    · rw [if_neg hb] at hE
      exact skip_scalar c g n cap a r ts w hn h20 hnc hgc ha h h34 (fun e => hb (Or.inl e)) (fun e => hb (Or.inr e)) hE

set_option maxHeartbeats 400000 in
theorem zzskip_any (g n cap a r : Nat) (ts : List Int) (w : World) (hn : ts.length = n) (h20 : n ≤ 1048576) (hnc : n ≤ cap) (hg : g < w.heap.size) (ha : a < n) (hc : Bytes w g 0 ts n) (HE : Hid (vend ts a = some r)) :
    Calls Try.prog 17 #[.slice (some ⟨g, 0, none⟩) n cap, .int .i64 a] w fun en w' => en = .returned (.int .i64 (r : Nat)) ∧ Below w.heap.size w w' := by
  have hcur : Cur (w.alloc (.cells #[.slice (some ⟨g, 0, none⟩) n cap, .int .i64 a] 46)) w.heap.size g n cap ts a :=
    ⟨by simp, by simp, by simp, fun i hi => (World.cell?_alloc_lt _ _ _ hg).trans (hc i hi)⟩
  have HC : Hid _ := hcur
  have hgne : g ≠ w.heap.size := by omega
  clear hcur hc
  go_enter Try.func17, Try.ntmps17
  go_wp2_with (go_at_call 28; refine (skip_any w.heap.size g n cap a r ts _ hn h20 hnc hgne ha HC.out HE).mono ?_; rintro en w1 ⟨rfl, hm, hp⟩)
  go_ret
  exact ⟨rfl, ((Below.refl _ _).alloc (Nat.le_refl _) _).trans (hm.below (Nat.le_refl _))⟩

set_option maxHeartbeats 1000000 in
theorem vend_any (g n cap a : Nat) (ts : List Int) (w : World) (R : Option Nat) (hn : ts.length = n) (h20 : n ≤ 1048576) (ha : a < n) (hg : g < w.heap.size) (hc : Bytes w g 0 ts n) (HR : Hid (vend ts a = R)) :
    Calls Try.prog 16 #[.slice (some ⟨g, 0, none⟩) n cap, .int .i64 a] w fun e w' => e = .returned (closeRet R) ∧ Below w.heap.size w w' := by
  have hR := HR.out
  unfold vend at hR
  have hcx := hc a ha
  rw [Nat.zero_add] at hcx
  obtain ⟨x, hx⟩ : ∃ x, ts.getD a 0 = x := ⟨_, rfl⟩
  rw [hx] at hcx
  by_cases h34 : x = 34
  · subst h34
    rw [if_pos hx] at hR
    rcases hcl : close (ts.drop (a + 1)) 0 (a + 1) with _ | e
    · have HCL : Hid _ := hcl
      have HR' : Hid (R = .none) := by rw [← hR, hcl]; rfl
      clear hR hcl hx HR
      have HB := hide hc
      clear hc
      go_enter Try.func16, Try.ntmps16
      go_wp2_with (go_at_call 11; refine (close_at_none g n cap a _ ts _ rfl hn h20 ha HB.out HCL).mono ?_; rintro en w' ⟨rfl, rfl⟩)
      go_ret2
      exact ⟨by rw [HR'.out]; rfl, Below.refl _ _⟩
    · have HCL : Hid _ := hcl
      have HR' : Hid (R = some (e + 1)) := by rw [← hR, hcl]; rfl
      have hrg := close_range ts _ (a + 1) 0 e rfl hcl
      clear hR hcl hx HR
      have HB := hide hc
      clear hc
      go_enter Try.func16, Try.ntmps16
      go_wp2_with (go_at_call 11; refine (close_at_some g n cap a e _ ts _ rfl hn h20 ha HB.out HCL).mono ?_; rintro en w' ⟨rfl, rfl⟩)
      go_ret2
      exact ⟨by rw [HR'.out]; rfl, Below.refl _ _⟩
  · rw [if_neg (by omega)] at hR
    have h34' : (x == 34) = false := by simpa using h34
    by_cases hb : x = 123 ∨ x = 91
    · rw [if_pos (by omega)] at hR
      have HR' : Hid _ := hR
      have HB := hide hc
      clear hc hR HR hx
      rcases hb with rfl | rfl
      · go_enter Try.func16, Try.ntmps16
        go_wp2_with fail
        refine (bracket_any g n cap a ts _ R hn h20 ha hg HB.out HR').mono ?_
        rintro en w1 ⟨rfl, hbel⟩
        rcases R with _ | e
        all_goals
          simp only [closeRet]
          go_wp2
          go_ret2
          exact ⟨rfl, hbel⟩
      · go_enter Try.func16, Try.ntmps16
        go_wp2_with fail
        refine (bracket_any g n cap a ts _ R hn h20 ha hg HB.out HR').mono ?_
        rintro en w1 ⟨rfl, hbel⟩
        rcases R with _ | e
        all_goals
          simp only [closeRet]
          go_wp2
          go_ret2
          exact ⟨rfl, hbel⟩
    · rw [if_neg (by omega)] at hR
      have b1 : (x == 123) = false := by simp; omega
      have b2 : (x == 91) = false := by simp; omega
      have HR' : Hid (scal (ts.drop a) a = R) := hR
      clear hR HR hx hb
      go_enter Try.func16, Try.ntmps16
      go_wp2
      go_loop [9] (fun j => ∃ k : Nat, k ≤ n ∧ j = .int .i64 k ∧ Hid (scal (ts.drop k) k = R)) (fun j => n - (intOf j).toNat)
      case atStart => exact ⟨a, by omega, rfl, HR'⟩
      case round =>
        clear HR' hcx h34 h34' b1 b2
        obtain ⟨k, hk, rfl, HR⟩ := hrel
        by_cases hlt : k < n
        · have hcy := hc k hlt
          rw [Nat.zero_add] at hcy
          obtain ⟨y, hy⟩ : ∃ y, ts.getD k 0 = y := ⟨_, rfl⟩
          rw [hy] at hcy
          by_cases h44 : y = 44
          · have HR' : Hid (R = some k) := by rw [← HR.out]; exact scal_hit ts k (by omega) (by omega)
            subst h44
            clear HR hy hc
            go_wp2
            go_ret2
            exact ⟨by rw [HR'.out]; rfl, Below.refl _ _⟩
          · have h44' : (y == 44) = false := by simpa using h44
            by_cases h125 : y = 125
            · have HR' : Hid (R = some k) := by rw [← HR.out]; exact scal_hit ts k (by omega) (by omega)
              subst h125
              clear HR hy hc
              go_wp2
              go_ret2
              exact ⟨by rw [HR'.out]; rfl, Below.refl _ _⟩
            · have h125' : (y == 125) = false := by simpa using h125
              have HR' : Hid (scal (ts.drop (k + 1)) (k + 1) = R) := by rw [← HR.out]; exact (scal_miss ts k (by omega) (by omega)).symm
              clear HR hy hc
              go_wp2
              go_round
              case rel => exact ⟨k + 1, by omega, by go_num, HR'⟩
              case measure => simp [intOf]; omega
        · have HR' : Hid (R = .none) := by rw [← HR.out]; exact scal_end ts k (by omega)
          clear HR hc
          go_wp2
          go_ret2
          exact ⟨by rw [HR'.out]; rfl, Below.refl _ _⟩

set_option maxHeartbeats 400000 in
/-- zzBytes: the length is small enough. -/
theorem zz2_yes (a : Option Addr) (len cap : Nat) (at_ : Int) (w : World) (h : len ≤ 1048576) :
    Calls Try.prog 15 #[.slice a len cap, .int .i64 at_] w fun e w' => e = .returned (.bool true) ∧ w' = w := by
  have h1 : ¬ (1048576 : Int) < (len : Int) := by omega
  go_enter Try.func15, Try.ntmps15
  go_wp2
  go_ret
  exact ⟨rfl, rfl⟩
theorem zz2_no (a : Option Addr) (len cap : Nat) (at_ : Int) (w : World) (h : 1048576 < len) :
    Calls Try.prog 15 #[.slice a len cap, .int .i64 at_] w fun e w' => e = .returned (.bool false) ∧ w' = w := by
  have h1 : (1048576 : Int) < (len : Int) := by omega
  go_enter Try.func15, Try.ntmps15
  go_wp2
  go_ret
  exact ⟨rfl, rfl⟩

theorem bytes_take2 {w : World} {b off len : Nat} {zs : List Int} (h : ∀ i, i < len → w.cell? ⟨b, off + i, none⟩ = some (.int .u8 (zs.getD i 0))) : Bytes w b off (zs.take len) len := by
  intro i hi
  rw [h i hi]
  simp [hi]

set_option maxHeartbeats 1000000 in
theorem skip_walk_in (b off len0 cap0 : Nat) (ts : List Int) (a : Nat) (w : World) (hb : b < w.heap.size) (hts : ts.length = len0) (h20 : len0 ≤ 1048576) (ha : a < len0) (hc : Bytes w b off ts len0) :
    Calls Try.prog 5 #[.slice (some ⟨b, off, none⟩) len0 cap0, .int .i64 a] w fun e w' => e = .returned (.bool true) ∧ Below w.heap.size w w' := by
  have ha0 : ¬ ((a : Int) < 0) := by omega
  have hd20 : decide ((1048576 : Int) < (len0 : Int)) = false := by simp; omega
  have ha0' : decide ((a : Int) < 0) = false := by simp
  rcases hR : vend ts a with _ | r
  · have HR : Hid _ := hR
    clear hR
    go_enter Try.func5, Try.ntmps5
    go_wp2_with (go_at_call 15; refine (zz2_yes _ _ _ _ _ h20).mono ?_; rintro en w' ⟨rfl, rfl⟩)
    refine (copy_any b off len0 cap0 ts _ h20 hb hc).mono ?_
    rintro en w1 ⟨g, rfl, hg1, hg2, hb1, hbel⟩
    go_wp2_with fail
    refine (vend_any g len0 len0 a ts _ .none hts h20 ha hg2 hb1 HR).mono ?_
    rintro en w2 ⟨rfl, hbel2⟩
    simp only [closeRet]
    go_wp2
    go_ret
    exact ⟨rfl, hbel.trans (hbel2.mono hbel.size)⟩
  · have HR : Hid _ := hR
    clear hR
    go_enter Try.func5, Try.ntmps5
    go_wp2_with (go_at_call 15; refine (zz2_yes _ _ _ _ _ h20).mono ?_; rintro en w' ⟨rfl, rfl⟩)
    refine (copy_any b off len0 cap0 ts _ h20 hb hc).mono ?_
    rintro en w1 ⟨g, rfl, hg1, hg2, hb1, hbel⟩
    go_wp2_with fail
    refine (vend_any g len0 len0 a ts _ (some r) hts h20 ha hg2 hb1 HR).mono ?_
    rintro en w2 ⟨rfl, hbel2⟩
    simp only [closeRet]
    have hb2 : Bytes w2 g 0 ts len0 := fun i hi => (hbel2.cell (p := ⟨g, 0 + i, none⟩) hg2).trans (hb1 i hi)
    have hg3 : g < w2.heap.size := Nat.lt_of_lt_of_le hg2 hbel2.size
    have hB := hbel.trans (hbel2.mono hbel.size)
    clear hb1 hbel hbel2 hc
    go_wp2_with fail
    refine (zzskip_any g len0 len0 a r ts _ hts h20 (Nat.le_refl _) hg3 ha hb2 HR).mono ?_
    rintro en w3 ⟨rfl, hbel3⟩
    go_wp2
    go_ret
    exact ⟨by simp, hB.trans (hbel3.mono hB.size)⟩
end Go.Proofs.Qxb6601681a
