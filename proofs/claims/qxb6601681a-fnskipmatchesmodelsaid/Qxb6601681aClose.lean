import Derived.Test.Qxb6601681aCopy
import Derived.Test.Qxb6601681aPlain
namespace Go.Proofs.Qxb6601681a
open Go.RowKit

def closeRet : Option Nat → Value
  | some e => .tuple #[.int .i64 e, .bool true]
  | .none => .tuple #[.int .i64 0, .bool false]

set_option maxHeartbeats 400000 in
theorem close_any (g n cap a : Nat) (ts : List Int) (w : World) (R : Option Nat) (hn : ts.length = n) (h20 : n ≤ 1048576) (ha : a < n) (hc : Bytes w g 0 ts n) (HR : Hid (close (ts.drop (a + 1)) 0 (a + 1) = R)) :
    Calls Try.prog 11 #[.slice (some ⟨g, 0, none⟩) n cap, .int .i64 a] w fun e w' => e = .returned (closeRet R) ∧ w' = w := by
  go_enter Try.func11, Try.ntmps11
  go_wp2
  go_loop [6, 7] (fun r j => ∃ kj kr : Nat, a < kj ∧ kj ≤ n ∧ kr ≤ kj ∧ j = .int .i64 kj ∧ r = .int .i64 kr ∧ Hid (close (ts.drop kj) kr kj = R)) (fun _ j => n - (intOf j).toNat)
  case atStart => exact ⟨a + 1, 0, by omega, by omega, by omega, by go_num, rfl, HR⟩
  case round =>
    clear HR
    obtain ⟨j, r, hj1, hj2, hr, rfl, rfl, HR⟩ := hrel
    by_cases hlt : j < n
    · have hcx := hc j hlt
      rw [Nat.zero_add] at hcx
      obtain ⟨x, hx⟩ : ∃ x, ts.getD j 0 = x := ⟨_, rfl⟩
      rw [hx] at hcx
      by_cases h34 : x = 34
      · subst h34
        by_cases hp : r % 2 = 0
        · have hp' : ((r : Int) % 2 == 0) = true := by simp; omega
          have HR' : Hid (R = some j) := by rw [← HR.out]; exact close_hit ts j r (by omega) hx hp
          clear hx HR hc
          go_wp2
          go_ret2
          exact ⟨by rw [HR'.out]; rfl, rfl⟩
        · have hp' : ((r : Int) % 2 == 0) = false := by simp; omega
          have HR' : Hid (close (ts.drop (j + 1)) 0 (j + 1) = R) := by rw [← HR.out]; exact (close_other ts j r (by omega) (by omega) (by omega)).symm
          clear hx HR hc
          go_wp2
          go_round
          case rel => exact ⟨j + 1, 0, by omega, by omega, by omega, by go_num, rfl, HR'⟩
          case measure => simp [intOf]; omega
      · have h34' : (x == 34) = false := by simpa using h34
        by_cases h92 : x = 92
        · subst h92
          have HR' : Hid (close (ts.drop (j + 1)) (r + 1) (j + 1) = R) := by rw [← HR.out]; exact (close_bs ts j r (by omega) hx).symm
          clear hx HR hc
          go_wp2
          go_round
          case rel => exact ⟨j + 1, r + 1, by omega, by omega, by omega, by go_num, by go_num, HR'⟩
          case measure => simp [intOf]; omega
        · have h92' : (x == 92) = false := by simpa using h92
          have HR' : Hid (close (ts.drop (j + 1)) 0 (j + 1) = R) := by rw [← HR.out]; exact (close_other ts j r (by omega) (by omega) (by omega)).symm
          clear hx HR hc
          go_wp2
          go_round
          case rel => exact ⟨j + 1, 0, by omega, by omega, by omega, by go_num, rfl, HR'⟩
          case measure => simp [intOf]; omega
    · have HR' : Hid (R = .none) := by rw [← HR.out]; exact close_end ts j r (by omega)
      clear HR hc
      go_wp2
      go_ret2
      exact ⟨by rw [HR'.out]; rfl, rfl⟩

set_option maxHeartbeats 400000 in
/-- zzBytes: the length is small enough. -/
theorem zz_yes (a : Option Addr) (len cap : Nat) (at_ : Int) (w : World) (h : len ≤ 1048576) :
    Calls Try.prog 9 #[.slice a len cap, .int .i64 at_] w fun e w' => e = .returned (.bool true) ∧ w' = w := by
  have h1 : ¬ (1048576 : Int) < (len : Int) := by omega
  go_enter Try.func9, Try.ntmps9
  go_wp2
  go_ret
  exact ⟨rfl, rfl⟩
theorem zz_no (a : Option Addr) (len cap : Nat) (at_ : Int) (w : World) (h : 1048576 < len) :
    Calls Try.prog 9 #[.slice a len cap, .int .i64 at_] w fun e w' => e = .returned (.bool false) ∧ w' = w := by
  have h1 : (1048576 : Int) < (len : Int) := by omega
  go_enter Try.func9, Try.ntmps9
  go_wp2
  go_ret
  exact ⟨rfl, rfl⟩

set_option maxHeartbeats 400000 in
/-- regB1SameBytes at one and the same slice. -/
theorem same_self (g o n cap : Nat) (ts : List Int) (w : World) (h20 : n ≤ 1048576) (hc : Bytes w g o ts n) :
    Calls Try.prog 13 #[.slice (some ⟨g, o, none⟩) n cap, .slice (some ⟨g, o, none⟩) n cap] w fun e w' => e = .returned (.bool true) ∧ ∃ q, w' = w.drewN q := by
  go_enter Try.func13, Try.ntmps13
  go_wp2
  go_loopw [5] (fun i wr => ∃ k q : Nat, k ≤ n ∧ i = .int .i64 k ∧ wr = w.drewN q) (fun i _ => n - (intOf i).toNat)
  case atStart => exact ⟨0, 0, Nat.zero_le _, rfl, rfl⟩
  case round =>
    obtain ⟨k, q, hk, rfl, rfl⟩ := hrel
    by_cases hlt : k < n
    · have hcx := hc k hlt
      obtain ⟨x, hx⟩ : ∃ x, ts.getD k 0 = x := ⟨_, rfl⟩
      rw [hx] at hcx
      clear hx hc
      go_wp2
      go_quiet (fail)
      go_wp2
      go_roundw
      case rel => exact ⟨k + 1, _, by omega, by go_num, rfl⟩
      case measure => simp [intOf]; omega
    · clear hc
      go_wp2
      go_ret
      exact ⟨rfl, _, rfl⟩
end Go.Proofs.Qxb6601681a
