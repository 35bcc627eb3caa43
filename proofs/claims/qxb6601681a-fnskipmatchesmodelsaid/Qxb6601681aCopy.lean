import Derived.Test.Qxb6601681aRows
import Derived.WalkKit
import Derived.WalkSpells
import Derived.BigQuiet
import Derived.Below
namespace Go.Proofs.Qxb6601681a
open Go.RowKit
set_option linter.unusedSimpArgs false

theorem Try.info5 : (Try.prog.info? 5).map (fun i => (i.zero, i.size, i.bytes)) = some (some (.int .u8 0), 1, 1) := by kernel_rfl

/-- The cells of a row of bytes. -/
def Bytes (w : World) (b off : Nat) (zs : List Int) (n : Nat) : Prop := ∀ i, i < n → w.cell? ⟨b, off + i, none⟩ = some (.int .u8 (zs.getD i 0))

/-- The copy's own row. -/
def Owned (w : World) (B len : Nat) : Prop := ∃ xs, w.ownsRow B 5 1 (.slice (some ⟨B, 0, none⟩) len len) len xs

theorem Owned.at {w : World} {B len : Nat} (h : Owned w B len) (k : Nat) (hk : k < len) : ∃ u, w.cell? ⟨B, k, none⟩ = some u := by
  obtain ⟨xs, h⟩ := h
  have e := h.cellAt k (by omega)
  have hl : xs.length = len * 1 := h.1
  exact ⟨xs[k]'(by omega), by rw [e]; simp [show k < xs.length by omega]⟩
theorem Owned.frozen {w : World} {B len : Nat} (h : Owned w B len) (k : Nat) : w.frozen? ⟨B, k, none⟩ = false := by
  obtain ⟨xs, h⟩ := h
  exact h.frozenAt k
theorem Owned.set {w : World} {B len : Nat} (h : Owned w B len) (k : Nat) (u : Value) : Owned (w.setCell ⟨B, k, none⟩ u) B len := by
  obtain ⟨xs, h⟩ := h
  exact ⟨_, (h.stored k u).1⟩
theorem Owned.lt {w : World} {B len : Nat} (h : Owned w B len) : B < w.heap.size := by
  obtain ⟨xs, h⟩ := h
  exact (h.lt B rfl).2

theorem Bytes.step {w : World} {B k : Nat} {zs : List Int} (h : Bytes w B 0 zs k) (hs : ∃ u, w.cell? ⟨B, k, none⟩ = some u) :
    Bytes (w.setCell ⟨B, k, none⟩ (.int .u8 (zs.getD k 0))) B 0 zs (k + 1) := by
  intro i hi
  rw [Nat.zero_add]
  by_cases e : i = k
  · subst e
    obtain ⟨u, hu⟩ := hs
    rw [World.cell?_setCell_same _ _ _ hu]
  · rw [World.cell?_setCell_other _ _ _ _ (by first | (simp; done) | (simp; omega))]
    have := h i (by omega)
    simpa using this

set_option maxHeartbeats 400000 in
theorem copy_any (b off len cap : Nat) (zs : List Int) (w : World) (h20 : len ≤ 1048576) (hb : b < w.heap.size) (hc : Bytes w b off zs len) :
    Calls Try.prog 10 #[.slice (some ⟨b, off, none⟩) len cap] w fun e w' => ∃ g, e = .returned (.slice (some ⟨g, 0, none⟩) len len) ∧ w.heap.size ≤ g ∧ g < w'.heap.size ∧
      Bytes w' g 0 zs len ∧ Below w.heap.size w w' := by
  obtain ⟨i0, hi, hz0, hz1, hz2⟩ := info_parts Try.info5
  have q22 : ∀ (w : World) (a : Option Addr) (n c n' c' : Nat), (binOp .eql 22 (.slice a n c) (.slice none n' c')).run Try.prog w = .ok (.bool a.isNone) w := fun w a n c n' c' => Lib.run_eql_slice_nil w _ _ a n c n' c' Try.underlying22
  go_enter Try.func10, Try.ntmps10
  go_wp2_with (at_make; refine wpList_make_full _ rfl _ _ 22 rfl w.heap.size 5 i0 (.int .u8 0) 1 Try.underlying22 hi hz0 hz1 _ _ _ _ len rfl rfl rfl rfl (by rw [hz2]; omega) (by unfold maxLen; omega) (Nat.le_refl _) ?_)
  intro w1 hown hgrow
  have hO : Owned w1 w.heap.size len := ⟨_, hown⟩
  have hB : Below w.heap.size w w1 := (Below.refl _ _).grown hgrow (Nat.le_refl _) (fun k h => by cases h)
  clear hown hgrow
  go_wp2
  go_loopw [4] (fun i wr => ∃ k : Nat, k ≤ len ∧ i = .int .i64 k ∧ Owned wr w.heap.size len ∧ Bytes wr w.heap.size 0 zs k ∧ Below w.heap.size w wr) (fun i _ => len - (intOf i).toNat)
  case atStart => exact ⟨0, Nat.zero_le _, rfl, hO, fun i hi => absurd hi (Nat.not_lt_zero _), hB⟩
  case round =>
    obtain ⟨k, hk, rfl, hOr, hBr, hbel⟩ := hrel
    by_cases hlt : k < len
    · have hcx : wr.cell? ⟨b, off + k, none⟩ = some (.int .u8 (zs.getD k 0)) := (hbel.cell (by exact hb)).trans (hc k hlt)
      obtain ⟨u, hu⟩ := hOr.at k hlt
      have hfr := hOr.frozen k
      have R1 := hOr.set k (.int .u8 (zs.getD k 0))
      have R2 := hBr.step ⟨u, hu⟩
      have R3 := hbel.setCell (p := ⟨w.heap.size, k, none⟩) (Nat.le_refl _) (.int .u8 (zs.getD k 0))
      clear hO hB hOr hBr hbel
      go_wp2
      go_roundw
      case rel => exact ⟨k + 1, by omega, by go_num, R1, R2, R3⟩
      case measure => simp [intOf]; omega
    · have : k = len := by omega
      subst this
      clear hO hB
      go_wp2
      go_ret
      exact ⟨_, rfl, Nat.le_refl _, hOr.lt, hBr, hbel⟩
end Go.Proofs.Qxb6601681a
