import Derived.Test.Qxb6601681aClose
import Derived.Test.Qxb6601681aPlainSkip
namespace Go.Proofs.Qxb6601681a
open Go.RowKit
set_option linter.unusedSimpArgs false
set_option linter.unusedVariables false

theorem Try.info4 : (Try.prog.info? 4).map (fun i => (i.zero, i.size, i.bytes)) = some (some (.bool false), 1, 1) := by kernel_rfl

/-- The mask's own row. -/
def OwnedM (w : World) (B len : Nat) : Prop := ∃ xs, w.ownsRow B 4 1 (.slice (some ⟨B, 0, none⟩) len len) len xs
theorem OwnedM.frozen {w : World} {B len : Nat} (h : OwnedM w B len) (k : Nat) : w.frozen? ⟨B, k, none⟩ = false := by
  obtain ⟨xs, h⟩ := h
  exact h.frozenAt k
theorem OwnedM.set {w : World} {B len : Nat} (h : OwnedM w B len) (k : Nat) (u : Value) : OwnedM (w.setCell ⟨B, k, none⟩ u) B len := by
  obtain ⟨xs, h⟩ := h
  exact ⟨_, (h.stored k u).1⟩

/-- The mask, marked up to place i. -/
def Mask (w : World) (M N : Nat) (ts : List Int) (a i : Nat) : Prop := ∀ m, m < N → w.cell? ⟨M, m, none⟩ = some (.bool (decide (m < i) && inS ts a m))

theorem Mask.start {w : World} {B N : Nat} {ts : List Int} {a : Nat} (h : w.ownsRow B 4 1 (.slice (some ⟨B, 0, none⟩) N N) N (madeCells #[Value.bool false] N).toList) : Mask w B N ts a 0 := by
  intro m hm
  rw [h.cellAt m (by omega), toList_madeCells_one]
  simp [hm]
theorem hide {p : Prop} (h : p) : Hid p := h
theorem Mask.same {w : World} {M N : Nat} {ts : List Int} {a i : Nat} (h : Mask w M N ts a i) (hi : inS ts a i = false) : Mask w M N ts a (i + 1) := by
  intro m hm
  rw [h m hm]
  by_cases e : m = i
  · subst e; rw [hi]; simp
  · rw [show decide (m < i + 1) = decide (m < i) by simp; omega]
theorem Mask.step {w : World} {M N : Nat} {ts : List Int} {a i : Nat} (h : Mask w M N ts a i) (hN : i < N) (hi : inS ts a i = true) : Mask (w.setCell ⟨M, i, none⟩ (.bool true)) M N ts a (i + 1) := by
  intro m hm
  by_cases e : m = i
  · subst e
    rw [World.cell?_setCell_same _ _ _ (h m hN), hi]; simp
  · rw [World.cell?_setCell_other _ _ _ _ (by first | (simp; done) | (simp; omega)), h m hm, show decide (m < i + 1) = decide (m < i) by simp; omega]

theorem close_at (g n cap a : Nat) (A : Int) (ts : List Int) (w : World) (R : Option Nat) (hA : A = (a : Int)) (hn : ts.length = n) (h20 : n ≤ 1048576) (ha : a < n) (hc : Bytes w g 0 ts n) (HR : Hid (close (ts.drop (a + 1)) 0 (a + 1) = R)) :
    Calls Try.prog 11 #[.slice (some ⟨g, 0, none⟩) n cap, .int .i64 A] w fun e w' => e = .returned (closeRet R) ∧ w' = w := by
  subst hA; exact close_any g n cap a ts w R hn h20 ha hc HR
theorem close_at_some (g n cap a e : Nat) (A : Int) (ts : List Int) (w : World) (hA : A = (a : Int)) (hn : ts.length = n) (h20 : n ≤ 1048576) (ha : a < n) (hc : Bytes w g 0 ts n) (HR : Hid (close (ts.drop (a + 1)) 0 (a + 1) = some e)) :
    Calls Try.prog 11 #[.slice (some ⟨g, 0, none⟩) n cap, .int .i64 A] w fun en w' => en = .returned (.tuple #[.int .i64 e, .bool true]) ∧ w' = w := close_at g n cap a A ts w (some e) hA hn h20 ha hc HR
theorem close_at_none (g n cap a : Nat) (A : Int) (ts : List Int) (w : World) (hA : A = (a : Int)) (hn : ts.length = n) (h20 : n ≤ 1048576) (ha : a < n) (hc : Bytes w g 0 ts n) (HR : Hid (close (ts.drop (a + 1)) 0 (a + 1) = .none)) :
    Calls Try.prog 11 #[.slice (some ⟨g, 0, none⟩) n cap, .int .i64 A] w fun en w' => en = .returned (.tuple #[.int .i64 0, .bool false]) ∧ w' = w := close_at g n cap a A ts w .none hA hn h20 ha hc HR

set_option maxHeartbeats 2000000 in
theorem bracket_any (g n cap a : Nat) (ts : List Int) (w : World) (R : Option Nat) (hn : ts.length = n) (h20 : n ≤ 1048576) (ha : a < n) (hg : g < w.heap.size) (hc : Bytes w g 0 ts n) (HR : Hid (sc (ts.drop a) .none 0 a = R)) :
    Calls Try.prog 27 #[.slice (some ⟨g, 0, none⟩) n cap, .int .i64 a] w fun e w' => e = .returned (closeRet R) ∧ Below w.heap.size w w' := by
  obtain ⟨i0, hi, hz0, hz1, hz2⟩ := info_parts Try.info4
  obtain ⟨N, hN⟩ : ∃ N, a + N = n := ⟨n - a, by omega⟩
  go_enter Try.func27, Try.ntmps27
  go_wp2_with (at_make; refine wpList_make_full _ rfl _ _ 53 rfl w.heap.size 4 i0 (.bool false) 1 Try.underlying53 hi hz0 hz1 _ _ _ _ N rfl rfl (by omega) (by omega) (by rw [hz2]; omega) (by unfold maxLen; omega) (Nat.le_refl _) ?_)
  intro w1 hown hgrow
  have hO : OwnedM w1 w.heap.size N := ⟨_, hown⟩
  have hM : Mask w1 w.heap.size N ts a 0 := Mask.start hown
  have hB : Below w.heap.size w w1 := (Below.refl _ _).grown hgrow (Nat.le_refl _) (fun k h => by cases h)
  have hb3 : Bytes w1 g 0 ts n := fun i h => (hB.cell (p := ⟨g, 0 + i, none⟩) hg).trans (hc i h)
  clear hown hgrow
  go_wp2
  go_loopw [8, 9] (fun kn i wr => ∃ k : Nat, k ≤ N ∧ i = .int .i64 k ∧ kn = .int .i64 ((n : Int) - (a : Int)) ∧ qs ts a k = .none ∧ OwnedM wr w.heap.size N ∧ Mask wr w.heap.size N ts a k ∧ Bytes wr g 0 ts n ∧ Below w.heap.size w wr) (fun _ i _ => N - (intOf i).toNat)
  case atStart => exact ⟨0, Nat.zero_le _, rfl, rfl, rfl, hO, hM, hb3, hB⟩
  case round =>
    clear hO hM hB hb3 hc
    obtain ⟨k, hk, rfl, rfl, hq, hOr, hmask, hb3, HBel⟩ := hrel
    by_cases hlt : k < N
    · have hcx := hb3 (a + k) (by omega)
      rw [Nat.zero_add] at hcx
      obtain ⟨x, hx⟩ : ∃ x, ts.getD (a + k) 0 = x := ⟨_, rfl⟩
      rw [hx] at hcx
      by_cases c34 : x = 34
      · subst c34
        rcases hcl : close (ts.drop (a + k + 1)) 0 (a + k + 1) with _ | e
        · have HCL : Hid _ := hcl
          have HK : Hid (∀ bb : Int, sc (ts.drop (a + k)) (qs ts a k) bb (a + k) = .none) := fun bb => by
            rw [hq, sc_quote ts bb (a + k) (by omega) hx]; exact sc_unclosed ts bb _ _ 0 rfl hcl
          clear hx hq hcl
          have HB3 := hide hb3
          have HM := hide hmask
          clear hb3 hmask
          go_wp2_with (go_at_call 11; refine (close_at_none g n cap (a + k) _ ts _ (by omega) hn h20 (by omega) HB3.out HCL).mono ?_; rintro en w' ⟨rfl, rfl⟩)
          have hb3 := HB3.out
          have hmask := HM.out
          clear HB3 HM hcx
          go_loop [13, 14] (fun b m => ∃ (mm : Nat) (bb : Int), mm ≤ k ∧ m = .int .i64 mm ∧ b = .int .i64 bb ∧ -(mm : Int) ≤ bb ∧ bb ≤ mm ∧ Hid (sc (ts.drop (a + mm)) (qs ts a mm) bb (a + mm) = R)) (fun _ m => k - (intOf m).toNat)
          case atStart => exact ⟨0, 0, Nat.zero_le _, rfl, rfl, by omega, by omega, HR⟩
          case round =>
            clear HR
            obtain ⟨m, bb, hm1, rfl, rfl, hb1, hb2, HR⟩ := hrel
            by_cases hlt2 : m < k
            · have hmc := hmask m (by omega)
              rw [decide_eq_true hlt2, Bool.true_and] at hmc
              rcases hs : inS ts a m with _ | _
              · obtain ⟨q1, q2, q3⟩ := qs_out ts a m hs
                rw [hs] at hmc
                have hcy := hb3 (a + m) (by omega)
                rw [Nat.zero_add] at hcy
                obtain ⟨y, hy⟩ : ∃ y, ts.getD (a + m) 0 = y := ⟨_, rfl⟩
                rw [hy] at hcy
                have hR1 := HR.out
                rw [q1] at hR1
                by_cases cop : y = 123 ∨ y = 91
                · have HR' : Hid (sc (ts.drop (a + (m + 1))) (qs ts a (m + 1)) (bb + 1) (a + (m + 1)) = R) := by rw [q3, ← hR1]; exact (sc_open ts bb (a + m) (by omega) (by omega)).symm
                  clear HR hR1 hy q1 q2 q3 hs hb3 hmask HK
                  rcases cop with rfl | rfl
                  all_goals
                    go_wp2
                    go_round
                    case rel => exact ⟨m + 1, bb + 1, by omega, by go_num, by go_num, by omega, by omega, HR'⟩
                    case measure => simp [intOf]; omega
                · have co1 : (y == 123) = false := by simp; omega
                  have co2 : (y == 91) = false := by simp; omega
                  by_cases cs : y = 125 ∨ y = 93
                  · have hsh := sc_shut ts bb (a + m) (by omega) (by omega)
                    rw [hR1] at hsh
                    by_cases hb : bb = 1
                    · have HR' : Hid (R = some (a + m + 1)) := by rw [hb, if_pos rfl] at hsh; exact hsh
                      have hz : (bb - 1 == 0) = true := by simp; omega
                      clear HR hR1 hy q1 q2 q3 hs hb3 hmask HK co1 co2 cop hsh hb
                      rcases cs with rfl | rfl
                      all_goals
                        go_wp2
                        go_ret2
                        exact ⟨by rw [HR'.out]; rfl, HBel⟩
                    · have HR' : Hid (sc (ts.drop (a + (m + 1))) (qs ts a (m + 1)) (bb - 1) (a + (m + 1)) = R) := by rw [q3]; rw [if_neg hb] at hsh; exact hsh.symm
                      have hz : (bb - 1 == 0) = false := by simp; omega
                      clear HR hR1 hy q1 q2 q3 hs hb3 hmask HK co1 co2 cop hsh hb
                      rcases cs with rfl | rfl
                      all_goals
                        go_wp2
                        go_round
                        case rel => exact ⟨m + 1, bb - 1, by omega, by go_num, by go_num, by omega, by omega, HR'⟩
                        case measure => simp [intOf]; omega
                  · have cs1 : (y == 125) = false := by simp; omega
                    have cs2 : (y == 93) = false := by simp; omega
                    have HR' : Hid (sc (ts.drop (a + (m + 1))) (qs ts a (m + 1)) bb (a + (m + 1)) = R) := by rw [q3, ← hR1]; exact (sc_other ts bb (a + m) (by omega) q2 (by omega) (by omega)).symm
                    clear HR hR1 hy q1 q2 q3 hs hb3 hmask HK cs cop
                    go_wp2
                    go_round
                    case rel => exact ⟨m + 1, bb, by omega, by go_num, by go_num, by omega, by omega, HR'⟩
                    case measure => simp [intOf]; omega
              · rw [hs] at hmc
                have HR' : Hid (sc (ts.drop (a + (m + 1))) (qs ts a (m + 1)) bb (a + (m + 1)) = R) := by rw [← HR.out]; exact (sc_in ts a m bb (by omega) hs).symm
                clear HR hs hb3 hmask HK
                go_wp2
                go_round
                case rel => exact ⟨m + 1, bb, by omega, by go_num, by go_num, by omega, by omega, HR'⟩
                case measure => simp [intOf]; omega
            · have : m = k := by omega
              subst this
              have HR' : Hid (R = .none) := by rw [← HR.out]; exact HK.out bb
              clear HR hb3 hmask HK
              go_wp2
              go_ret2
              exact ⟨by rw [HR'.out]; rfl, HBel⟩
        · have HCL : Hid _ := hcl
          have hrg := close_range ts _ (a + k + 1) 0 e rfl hcl
          obtain ⟨p1, p2⟩ := inS_quote ts a k hq hx
          obtain ⟨p3, p4⟩ := qs_close ts a _ (k + 1) 0 e rfl p2 hcl
          have HS : Hid (∀ j, k ≤ j → a + j ≤ e → inS ts a j = true) := fun j h1 h2 => by
            by_cases ej : j = k
            · rw [ej]; exact p1
            · exact p3 j (by omega) h2
          have HQ : Hid (qs ts a (e + 1 - a) = .none) := p4
          clear hx hq hcl p1 p2 p3 p4 HR
          have HB3 := hide hb3
          have HM := hide hmask
          clear hb3 hmask
          go_wp2_with (go_at_call 11; refine (close_at_some g n cap (a + k) e _ ts _ (by omega) hn h20 (by omega) HB3.out HCL).mono ?_; rintro en w' ⟨rfl, rfl⟩)
          go_loopw [12] (fun j wr => ∃ jj : Nat, k ≤ jj ∧ a + jj ≤ e + 1 ∧ j = .int .i64 jj ∧ OwnedM wr w.heap.size N ∧ Mask wr w.heap.size N ts a jj ∧ Bytes wr g 0 ts n ∧ Below w.heap.size w wr) (fun j _ => e + 1 - a - (intOf j).toNat)
          case atStart => exact ⟨k, Nat.le_refl _, by omega, rfl, hOr, HM.out, HB3.out, HBel⟩
          case round =>
            clear hOr HM HB3 HBel hcx
            obtain ⟨j, hj1, hj2, rfl, hOr, hmask, hb3, HBel⟩ := hrel
            by_cases hle : a + j ≤ e
            · have hcm := hmask j (by omega)
              have hfr := hOr.frozen j
              have R1 := hOr.set j (.bool true)
              have R2 := hmask.step (by omega) (HS.out j hj1 hle)
              have R3 : Below w.heap.size w (wr.setCell ⟨w.heap.size, j, none⟩ (.bool true)) := HBel.setCell (p := ⟨w.heap.size, j, none⟩) (Nat.le_refl _) (.bool true)
              have R4 : Bytes (wr.setCell ⟨w.heap.size, j, none⟩ (.bool true)) g 0 ts n := fun i h => (World.cell?_setCell_other _ _ _ _ (by first | (simp; done) | (simp; omega))).trans (hb3 i h)
              clear hOr hmask hb3 HBel
              go_wp2
              go_roundw
              case rel => exact ⟨j + 1, by omega, by omega, by go_num, R1, R2, R4, R3⟩
              case measure => simp [intOf]; omega
            · have ej : e + 1 - a = j := by omega
              rw [ej] at HQ
              clear ej
              have HQ' : qs ts a j = .none := HQ.out
              clear HQ HS
              go_wp2
              go_roundw
              case rel => exact ⟨j, by omega, by go_num, rfl, HQ', hOr, hmask, hb3, HBel⟩
              case measure => simp [intOf]; omega
      · have c34' : (x != 34) = true := by simpa using c34
        obtain ⟨p1, p2⟩ := inS_no ts a k hq (by omega)
        have hmask' := hmask.same p1
        clear hq hmask p1 hx HR
        go_wp2
        go_roundw
        case rel => exact ⟨k + 1, by omega, by go_num, rfl, p2, hOr, hmask', hb3, HBel⟩
        case measure => simp [intOf]; omega
    · have : k = N := by omega
      subst this
      have HK : Hid (∀ bb : Int, sc (ts.drop (a + k)) (qs ts a k) bb (a + k) = .none) := fun bb => sc_end ts _ bb _ (by omega)
      clear hq
      go_wp2
      go_loop [13, 14] (fun b m => ∃ (mm : Nat) (bb : Int), mm ≤ k ∧ m = .int .i64 mm ∧ b = .int .i64 bb ∧ -(mm : Int) ≤ bb ∧ bb ≤ mm ∧ Hid (sc (ts.drop (a + mm)) (qs ts a mm) bb (a + mm) = R)) (fun _ m => k - (intOf m).toNat)
      case atStart => exact ⟨0, 0, Nat.zero_le _, rfl, rfl, by omega, by omega, HR⟩
      case round =>
        clear HR
        obtain ⟨m, bb, hm1, rfl, rfl, hb1, hb2, HR⟩ := hrel
        by_cases hlt2 : m < k
        · have hmc := hmask m (by omega)
          rw [decide_eq_true hlt2, Bool.true_and] at hmc
          rcases hs : inS ts a m with _ | _
          · obtain ⟨q1, q2, q3⟩ := qs_out ts a m hs
            rw [hs] at hmc
            have hcy := hb3 (a + m) (by omega)
            rw [Nat.zero_add] at hcy
            obtain ⟨y, hy⟩ : ∃ y, ts.getD (a + m) 0 = y := ⟨_, rfl⟩
            rw [hy] at hcy
            have hR1 := HR.out
            rw [q1] at hR1
            by_cases cop : y = 123 ∨ y = 91
            · have HR' : Hid (sc (ts.drop (a + (m + 1))) (qs ts a (m + 1)) (bb + 1) (a + (m + 1)) = R) := by rw [q3, ← hR1]; exact (sc_open ts bb (a + m) (by omega) (by omega)).symm
              clear HR hR1 hy q1 q2 q3 hs hb3 hmask HK
              rcases cop with rfl | rfl
              all_goals
                go_wp2
                go_round
                case rel => exact ⟨m + 1, bb + 1, by omega, by go_num, by go_num, by omega, by omega, HR'⟩
                case measure => simp [intOf]; omega
            · have co1 : (y == 123) = false := by simp; omega
              have co2 : (y == 91) = false := by simp; omega
              by_cases cs : y = 125 ∨ y = 93
              · have hsh := sc_shut ts bb (a + m) (by omega) (by omega)
                rw [hR1] at hsh
                by_cases hb : bb = 1
                · have HR' : Hid (R = some (a + m + 1)) := by rw [hb, if_pos rfl] at hsh; exact hsh
                  have hz : (bb - 1 == 0) = true := by simp; omega
                  clear HR hR1 hy q1 q2 q3 hs hb3 hmask HK co1 co2 cop hsh hb
                  rcases cs with rfl | rfl
                  all_goals
                    go_wp2
                    go_ret2
                    exact ⟨by rw [HR'.out]; rfl, HBel⟩
                · have HR' : Hid (sc (ts.drop (a + (m + 1))) (qs ts a (m + 1)) (bb - 1) (a + (m + 1)) = R) := by rw [q3]; rw [if_neg hb] at hsh; exact hsh.symm
                  have hz : (bb - 1 == 0) = false := by simp; omega
                  clear HR hR1 hy q1 q2 q3 hs hb3 hmask HK co1 co2 cop hsh hb
                  rcases cs with rfl | rfl
                  all_goals
                    go_wp2
                    go_round
                    case rel => exact ⟨m + 1, bb - 1, by omega, by go_num, by go_num, by omega, by omega, HR'⟩
                    case measure => simp [intOf]; omega
              · have cs1 : (y == 125) = false := by simp; omega
                have cs2 : (y == 93) = false := by simp; omega
                have HR' : Hid (sc (ts.drop (a + (m + 1))) (qs ts a (m + 1)) bb (a + (m + 1)) = R) := by rw [q3, ← hR1]; exact (sc_other ts bb (a + m) (by omega) q2 (by omega) (by omega)).symm
                clear HR hR1 hy q1 q2 q3 hs hb3 hmask HK cs cop
                go_wp2
                go_round
                case rel => exact ⟨m + 1, bb, by omega, by go_num, by go_num, by omega, by omega, HR'⟩
                case measure => simp [intOf]; omega
          · rw [hs] at hmc
            have HR' : Hid (sc (ts.drop (a + (m + 1))) (qs ts a (m + 1)) bb (a + (m + 1)) = R) := by rw [← HR.out]; exact (sc_in ts a m bb (by omega) hs).symm
            clear HR hs hb3 hmask HK
            go_wp2
            go_round
            case rel => exact ⟨m + 1, bb, by omega, by go_num, by go_num, by omega, by omega, HR'⟩
            case measure => simp [intOf]; omega
        · have : m = k := by omega
          subst this
          have HR' : Hid (R = .none) := by rw [← HR.out]; exact HK.out bb
          clear HR hb3 hmask HK
          go_wp2
          go_ret2
          exact ⟨by rw [HR'.out]; rfl, HBel⟩
end Go.Proofs.Qxb6601681a
