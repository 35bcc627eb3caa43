import Derived.Test.Qxb6601858aRows
import Derived.Test.Qxb6601858aShelf
import Derived.Test.Qxb6601858aPlain
import Derived.WalkKit
import Derived.WalkSpells
import Derived.BigQuiet
import Derived.Below
namespace Go.Proofs.Qxb6601858a
open Go.RowKit
set_option linter.unusedSimpArgs false
set_option linter.unusedVariables false

theorem hide {p : Prop} (h : p) : Hid p := h

/-- The cells of a row of bytes. -/
def Bytes (w : World) (b off : Nat) (us : List UInt8) (n : Nat) : Prop := ∀ i, i < n → w.cell? ⟨b, off + i, none⟩ = some (.int .u8 ((us.getD i 0).toNat : Int))
theorem Bytes.later {w w' : World} {g o n B : Nat} {us : List UInt8} (h : Bytes w g o us n) (hb : Below B w w') (hg : 0 < n → g < B) : Bytes w' g o us n :=
  fun i hi => (hb.cell (p := ⟨g, o + i, none⟩) (hg (by omega))).trans (h i hi)

theorem grow_at (B b m : Nat) (N : Int) (w : World) (hN : N = (m : Int)) (hB : B ≤ b) (hbk : w.heap[b]? = some (.cells #[.pointer none, .slice none 0 0] 34 (0, 0))) (hBw : B ≤ w.heap.size) (hn : m ≤ 281474976710656) :
    Calls Try.prog 15 #[.pointer (some ⟨b, 0, none⟩), .int .i64 N] w fun e w' => e = .returned (.tuple #[]) ∧ (Lib.IsBuilder 34 5 B b (Lib.byteCells []) w' ∧ Below B w w') := by
  subst hN
  refine (Try.builder_Grow B b m w hB hbk hBw hn).mono ?_
  rintro e w' ⟨rfl, h1, h2⟩
  exact ⟨rfl, Or.inr h1, h2⟩
theorem write_at (B b : Nat) (l : List UInt8) (c : UInt8) (C : Int) (w : World) (hC : C = (c.toNat : Int)) (h : Lib.IsBuilder 34 5 B b (Lib.byteCells l) w) (hlen : l.length ≤ 2097152) (hBw : B ≤ w.heap.size) :
    Calls Try.prog 16 #[.pointer (some ⟨b, 0, none⟩), .int .u8 C] w fun e w' => e = .returned .nilIface ∧ (Lib.IsBuilder 34 5 B b (Lib.byteCells (l ++ [c])) w' ∧ Below B w w') := by
  subst hC
  refine (Try.builder_WriteByte B b (Lib.byteCells l) c.toNat w h (by rw [Lib.byteCells_length]; omega) hBw).mono ?_
  rintro e w' ⟨rfl, h1, h2⟩
  exact ⟨rfl, Or.inr (by rw [Lib.byteCells_append]; exact h1), h2⟩

theorem alloc2_new (w : World) (o1 o2 : Obj) : ((w.alloc o1).alloc o2).heap[w.heap.size + 1]? = some o2 := by
  have := heap_alloc_new (w.alloc o1) o2
  simpa using this

theorem grow_num (n : Nat) (g : Int) (hg : g ≠ 0) (hn : n ≤ 524288) : ∃ m : Nat, m ≤ 1048576 ∧ wrap64 ((n : Int) + wrap64 ((n : Int) / g)) = (m : Int) := by
  obtain ⟨h1, h2⟩ := div_bd n g hg
  rw [IntWalk.wrap64_in ((n : Int) / g) ⟨by omega, by omega⟩, IntWalk.wrap64_in _ ⟨by omega, by omega⟩]
  exact ⟨((n : Int) + (n : Int) / g).toNat, by omega, by omega⟩

set_option maxHeartbeats 1000000 in
theorem show_any (nm al : ByteArray) (len group : Int) (a : Option Addr) (g n cap : Nat) (us : List UInt8) (w : World) (hn : n ≤ 524288) (hg : group ≠ 0)
    (ha : 0 < n → a = some ⟨g, 0, none⟩ ∧ g < w.heap.size) (hc : Bytes w g 0 us n) :
    Calls Try.prog 14 #[.agg #[.string nm, .string al, .int .i64 len, .int .i64 group], .slice a n cap] w fun e w' => e = .returned (.string ⟨(outTo us (per group) n).toArray⟩) ∧ Below w.heap.size w w' := by
  obtain ⟨m, hm1, hm2⟩ := grow_num n group hg hn
  have HM := hide hm2
  have hpp := per_pos group hg
  clear hm2
  go_enter Try.func14, Try.ntmps14
  go_wp2_with fail
  refine (grow_at (w.heap.size + 1) (w.heap.size + 1) m _ _ HM.out (Nat.le_refl _) (alloc2_new _ _ _) (by simp) (by omega)).mono ?_
  rintro e w1 ⟨rfl, hI, hB1⟩
  have hcg : w1.cell? ⟨w.heap.size, 3, none⟩ = some (.int .i64 group) := (hB1.cell (p := ⟨w.heap.size, 3, none⟩) (by simp)).trans (by simp)
  have hB2 : Below w.heap.size w w1 := ((((Below.refl _ w).alloc (Nat.le_refl _) _).alloc (by simp) _)).trans (hB1.mono (by simp))
  have hsz : w.heap.size + 1 < w1.heap.size := by have := hB1.size; simp at this; omega
  clear hB1 HM
  go_wp2
  go_loopw [19] (fun i wr => ∃ k : Nat, k ≤ n ∧ i = .int .i64 k ∧ Lib.IsBuilder 34 5 (w.heap.size + 1) (w.heap.size + 1) (Lib.byteCells (outTo us (per group) k)) wr ∧ wr.cell? ⟨w.heap.size, 3, none⟩ = some (.int .i64 group) ∧ Below w.heap.size w wr ∧ w.heap.size + 1 < wr.heap.size) (fun i _ => n - (intOf i).toNat)
  case atStart => exact ⟨0, Nat.zero_le _, rfl, hI, hcg, hB2, hsz⟩
  case round =>
    clear hI hcg hB2 hsz
    obtain ⟨k, hk, rfl, hI, hcg, hB2, hsz⟩ := hrel
    have hlen := outTo_le us (per group) hpp k
    by_cases hlt : k < n
    · obtain ⟨rfl, hgl⟩ := ha (by omega)
      have hcx : wr.cell? ⟨g, k, none⟩ = some (.int .u8 ((us.getD k 0).toNat : Int)) := by
        have := (hc.later hB2 (fun _ => hgl)) k hlt
        rwa [Nat.zero_add] at this
      obtain ⟨x, hx⟩ : ∃ x, us.getD k 0 = x := ⟨_, rfl⟩
      rw [hx] at hcx
      by_cases h0 : 0 < k
      · have h0' : decide ((0 : Int) < (k : Int)) = true := by simp; omega
        by_cases hr : k % per group = 0
        · have hrm : ((k : Int) % group == 0) = true := by simpa using (rem_per group k hg (by omega)).2 hr
          have HO : Hid (outTo us (per group) (k + 1) = outTo us (per group) k ++ [45] ++ [x]) := by rw [Hid, outTo, dash_yes ⟨h0, hr⟩, hx]
          clear hx hr ha hc
          go_wp2_with fail
          refine (write_at (w.heap.size + 1) (w.heap.size + 1) (outTo us (per group) k) 45 _ _ rfl hI (by omega) (by omega)).mono ?_
          rintro e w2 ⟨rfl, hI2, hB3⟩
          have R1 : Below w.heap.size w w2 := hB2.trans (hB3.mono (by omega))
          have R2 : w2.cell? ⟨w.heap.size, 3, none⟩ = some (.int .i64 group) := (hB3.cell (p := ⟨w.heap.size, 3, none⟩) (by simp)).trans hcg
          have R3 : w.heap.size + 1 < w2.heap.size := Nat.lt_of_lt_of_le hsz hB3.size
          have hl2 : (outTo us (per group) k ++ [45]).length ≤ 2097152 := by simp; omega
          clear hI hcg hB2 hsz hB3
          go_wp2_with fail
          refine (write_at (w.heap.size + 1) (w.heap.size + 1) (outTo us (per group) k ++ [45]) x _ _ rfl hI2 hl2 (by omega)).mono ?_
          rintro e w3 ⟨rfl, hI3, hB4⟩
          have S1 : Below w.heap.size w w3 := R1.trans (hB4.mono (by omega))
          have S2 : w3.cell? ⟨w.heap.size, 3, none⟩ = some (.int .i64 group) := (hB4.cell (p := ⟨w.heap.size, 3, none⟩) (by simp)).trans R2
          have S3 : w.heap.size + 1 < w3.heap.size := Nat.lt_of_lt_of_le R3 hB4.size
          clear hI2 R1 R2 R3 hB4
          go_wp2
          go_roundw
          case rel => exact ⟨k + 1, by omega, by go_num, by rw [HO.out]; exact hI3, S2, S1, S3⟩
          case measure => simp [intOf]; omega
        · have hrm : ((k : Int) % group == 0) = false := by
            have : ¬ ((k : Int) % group = 0) := fun e => hr ((rem_per group k hg (by omega)).1 e)
            simpa using this
          have HO : Hid (outTo us (per group) (k + 1) = outTo us (per group) k ++ [x]) := by rw [Hid, outTo, dash_no (fun e => hr e.2), hx, List.append_nil]
          clear hx hr ha hc
          go_wp2_with fail
          refine (write_at (w.heap.size + 1) (w.heap.size + 1) (outTo us (per group) k) x _ _ rfl hI (by omega) (by omega)).mono ?_
          rintro e w2 ⟨rfl, hI2, hB3⟩
          have R1 : Below w.heap.size w w2 := hB2.trans (hB3.mono (by omega))
          have R2 : w2.cell? ⟨w.heap.size, 3, none⟩ = some (.int .i64 group) := (hB3.cell (p := ⟨w.heap.size, 3, none⟩) (by simp)).trans hcg
          have R3 : w.heap.size + 1 < w2.heap.size := Nat.lt_of_lt_of_le hsz hB3.size
          clear hI hcg hB2 hsz hB3
          go_wp2
          go_roundw
          case rel => exact ⟨k + 1, by omega, by go_num, by rw [HO.out]; exact hI2, R2, R1, R3⟩
          case measure => simp [intOf]; omega
      · have h0' : decide ((0 : Int) < (k : Int)) = false := by simp; omega
        have HO : Hid (outTo us (per group) (k + 1) = outTo us (per group) k ++ [x]) := by rw [Hid, outTo, dash_no (fun e => h0 e.1), hx, List.append_nil]
        clear hx ha hc
        go_wp2_with fail
        refine (write_at (w.heap.size + 1) (w.heap.size + 1) (outTo us (per group) k) x _ _ rfl hI (by omega) (by omega)).mono ?_
        rintro e w2 ⟨rfl, hI2, hB3⟩
        have R1 : Below w.heap.size w w2 := hB2.trans (hB3.mono (by omega))
        have R2 : w2.cell? ⟨w.heap.size, 3, none⟩ = some (.int .i64 group) := (hB3.cell (p := ⟨w.heap.size, 3, none⟩) (by simp)).trans hcg
        have R3 : w.heap.size + 1 < w2.heap.size := Nat.lt_of_lt_of_le hsz hB3.size
        clear hI hcg hB2 hsz hB3
        go_wp2
        go_roundw
        case rel => exact ⟨k + 1, by omega, by go_num, by rw [HO.out]; exact hI2, R2, R1, R3⟩
        case measure => simp [intOf]; omega
    · have : k = n := by omega
      subst this
      clear ha hc
      go_wp2_with fail
      refine (Try.builder_String (w.heap.size + 1) (w.heap.size + 1) (outTo us (per group) k) _ hI (by omega)).mono ?_
      rintro e w2 ⟨rfl, hB3⟩
      go_wp2
      go_ret
      exact ⟨rfl, hB2.trans (hB3.mono (by omega))⟩

set_option maxHeartbeats 400000 in
theorem zzshow_any (nm al : ByteArray) (len group : Int) (a : Option Addr) (g n cap : Nat) (us : List UInt8) (w : World) (hn : n ≤ 524288) (hg : group ≠ 0)
    (ha : 0 < n → a = some ⟨g, 0, none⟩ ∧ g < w.heap.size) (hc : Bytes w g 0 us n) :
    Calls Try.prog 8 #[.string nm, .string al, .int .i64 len, .int .i64 group, .slice a n cap] w fun e w' => e = .returned (.string ⟨(outTo us (per group) n).toArray⟩) ∧ Below w.heap.size w w' := by
  have HA := hide ha
  clear ha
  go_enter Try.func8, Try.ntmps8
  go_wp2_with fail
  refine (show_any nm al len group a g n cap us _ hn hg HA.out hc).mono ?_
  rintro e w1 ⟨rfl, hB⟩
  go_wp2
  go_ret
  exact ⟨rfl, hB⟩

set_option maxHeartbeats 400000 in
theorem period_any (group : Int) (w : World) (hg : group ≠ 0) :
    Calls Try.prog 10 #[.int .i64 group] w fun e w' => e = .returned (.int .i64 (per group : Nat)) ∧ w' = w := by
  rcases Int.lt_or_lt_of_ne hg with h | h
  · by_cases h2 : group < -2097152
    · have e : ((per group : Nat) : Int) = 2097152 := by unfold per; omega
      have HE := hide e
      clear e
      go_enter Try.func10, Try.ntmps10
      go_wp2
      go_ret
      exact ⟨by rw [HE.out]; rfl, rfl⟩
    · have e : ((per group : Nat) : Int) = -group := by unfold per; omega
      have HE := hide e
      clear e
      go_enter Try.func10, Try.ntmps10
      go_wp2
      go_ret
      exact ⟨by rw [HE.out]; rfl, rfl⟩
  · by_cases h2 : 2097152 < group
    · have e : ((per group : Nat) : Int) = 2097152 := by unfold per; omega
      have h' : ¬ group < 0 := by omega
      have HE := hide e
      clear e
      go_enter Try.func10, Try.ntmps10
      go_wp2
      go_ret
      exact ⟨by rw [HE.out]; rfl, rfl⟩
    · have e : ((per group : Nat) : Int) = group := by unfold per; omega
      have HE := hide e
      clear e
      have h' : ¬ group < 0 := by omega
      go_enter Try.func10, Try.ntmps10
      go_wp2
      go_ret
      exact ⟨by rw [HE.out]; rfl, rfl⟩
end Go.Proofs.Qxb6601858a
