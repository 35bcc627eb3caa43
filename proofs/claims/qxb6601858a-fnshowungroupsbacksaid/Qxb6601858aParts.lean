import Derived.Test.Qxb6601858aShow
namespace Go.Proofs.Qxb6601858a
open Go.RowKit
set_option linter.unusedSimpArgs false
set_option linter.unusedVariables false

theorem Try.info5 : (Try.prog.info? 5).map (fun i => (i.zero, i.size, i.bytes)) = some (some (.int .u8 0), 1, 1) := by kernel_rfl

set_option maxHeartbeats 1000000 in
theorem zz6 (nm al : ByteArray) (len group : Int) (a : Option Addr) (n cap : Nat) (w : World) (h1 : nm.size ≤ maxLen) (h2 : al.size ≤ maxLen) (h3 : n ≤ maxLen) :
    Calls Try.prog 6 #[.string nm, .string al, .int .i64 len, .int .i64 group, .slice a n cap] w fun e w' => ∃ b : Bool, e = .returned (.bool b) ∧ w = w' := by
  unfold maxLen at h1 h2 h3
  go_enter Try.func6, Try.ntmps6
  go_wp2
  all_goals (go_ret; exact ⟨_, rfl, rfl⟩)

set_option maxHeartbeats 1000000 in
theorem zz11 (nm al : ByteArray) (len group : Int) (a : Option Addr) (n cap : Nat) (w : World) (h1 : nm.size ≤ maxLen) (h2 : al.size ≤ maxLen) (h3 : n ≤ maxLen) :
    Calls Try.prog 11 #[.string nm, .string al, .int .i64 len, .int .i64 group, .slice a n cap] w fun e w' => ∃ b : Bool, e = .returned (.bool b) ∧ w = w' := by
  unfold maxLen at h1 h2 h3
  go_enter Try.func11, Try.ntmps11
  go_wp2
  all_goals (go_ret; exact ⟨_, rfl, rfl⟩)

set_option maxHeartbeats 1000000 in
theorem zz13 (nm al : ByteArray) (len group : Int) (a : Option Addr) (n cap : Nat) (w : World) (h1 : nm.size ≤ maxLen) (h2 : al.size ≤ maxLen) (h3 : n ≤ maxLen) :
    Calls Try.prog 13 #[.string nm, .string al, .int .i64 len, .int .i64 group, .slice a n cap] w fun e w' => ∃ b : Bool, e = .returned (.bool b) ∧ w = w' := by
  unfold maxLen at h1 h2 h3
  go_enter Try.func13, Try.ntmps13
  go_wp2
  all_goals (go_ret; exact ⟨_, rfl, rfl⟩)

/-- The copy's own row. -/
def Owned (w : World) (B len : Nat) : Prop := ∃ xs, w.ownsRow B 5 1 (.slice (some ⟨B, 0, none⟩) len len) len xs
theorem Owned.at {w : World} {B len : Nat} (h : Owned w B len) (k : Nat) (hk : k < len) : ∃ u, w.cell? ⟨B, k, none⟩ = some u := by
  obtain ⟨xs, h⟩ := h
  have e := h.cellAt k (by omega)
  have hl : xs.length = len * 1 := h.1
  exact ⟨xs[k]'(by omega), by rw [e]; simp [show k < xs.length by omega]⟩
theorem Owned.frozen {w : World} {B len : Nat} (h : Owned w B len) (k : Nat) : w.frozen? ⟨B, k, none⟩ = false := by
  obtain ⟨xs, h⟩ := h
  exact h.frozenAt k
theorem Owned.set {w : World} {B len : Nat} (h : Owned w B len) (k : Nat) (u : Value) : Owned (w.setCell ⟨B, k, none⟩ u) B len := by
  obtain ⟨xs, h⟩ := h
  exact ⟨_, (h.stored k u).1⟩
theorem Owned.lt {w : World} {B len : Nat} (h : Owned w B len) : B < w.heap.size := by
  obtain ⟨xs, h⟩ := h
  exact (h.lt B rfl).2
theorem Bytes.step {w : World} {B k : Nat} {us : List UInt8} (h : Bytes w B 0 us k) (hs : ∃ u, w.cell? ⟨B, k, none⟩ = some u) :
    Bytes (w.setCell ⟨B, k, none⟩ (.int .u8 ((us.getD k 0).toNat : Int))) B 0 us (k + 1) := by
  intro i hi
  rw [Nat.zero_add]
  by_cases e : i = k
  · subst e
    obtain ⟨u, hu⟩ := hs
    rw [World.cell?_setCell_same _ _ _ hu]
  · rw [World.cell?_setCell_other _ _ _ _ (by first | (simp; done) | (simp; omega))]
    have := h i (by omega)
    simpa using this

/-- What comes in: nil, or an address; the cells where there are any. -/
def Came (w : World) (a : Option Addr) (b off len cap : Nat) : Prop := (a = none ∧ len = 0) ∨ ∃ x, a = some x ∧ (0 < len → x = ⟨b, off, none⟩ ∧ b < w.heap.size)

set_option maxHeartbeats 1000000 in
theorem clone_any (a : Option Addr) (b off len cap : Nat) (us : List UInt8) (w : World) (h19 : len ≤ 524288) (ha : Came w a b off len cap) (hc : Bytes w b off us len) :
    Calls Try.prog 7 #[.slice a len cap] w fun e w' => ∃ a' g c', e = .returned (.slice a' len c') ∧ (0 < len → a' = some ⟨g, 0, none⟩ ∧ g < w'.heap.size) ∧ len ≤ c' ∧
      Bytes w' g 0 us len ∧ Below w.heap.size w w' := by
  obtain ⟨i0, hi, hz0, hz1, hz2⟩ := info_parts Try.info5
  have q22 : ∀ (w : World) (a : Option Addr) (n c n' c' : Nat), (binOp .eql 22 (.slice a n c) (.slice none n' c')).run Try.prog w = .ok (.bool a.isNone) w := fun w a n c n' c' => Lib.run_eql_slice_nil w _ _ a n c n' c' Try.underlying22
  rcases ha with ⟨rfl, rfl⟩ | ⟨x, rfl, hx⟩
  · go_enter Try.func7, Try.ntmps7
    go_wp2
    go_ret
    exact ⟨none, 0, 0, rfl, fun h => absurd h (by omega), Nat.le_refl _, fun i h => absurd h (by omega), Below.refl _ _⟩
  · have HX := hide hx
    clear hx
    go_enter Try.func7, Try.ntmps7
    go_wp2_with (at_make; refine wpList_make_full _ rfl _ _ 22 rfl w.heap.size 5 i0 (.int .u8 0) 1 Try.underlying22 hi hz0 hz1 _ _ _ _ len rfl rfl rfl rfl (by rw [hz2]; omega) (by unfold maxLen; omega) (Nat.le_refl _) ?_)
    intro w1 hown hgrow
    have hO : Owned w1 w.heap.size len := ⟨_, hown⟩
    have hB : Below w.heap.size w w1 := (Below.refl _ _).grown hgrow (Nat.le_refl _) (fun k h => by cases h)
    clear hown hgrow
    go_wp2
    go_loopw [4] (fun i wr => ∃ k : Nat, k ≤ len ∧ i = .int .i64 k ∧ Owned wr w.heap.size len ∧ Bytes wr w.heap.size 0 us k ∧ Below w.heap.size w wr) (fun i _ => len - (intOf i).toNat)
    case atStart => exact ⟨0, Nat.zero_le _, rfl, hO, fun i hi => absurd hi (Nat.not_lt_zero _), hB⟩
    case round =>
      obtain ⟨k, hk, rfl, hOr, hBr, hbel⟩ := hrel
      clear hO hB
      by_cases hlt : k < len
      · obtain ⟨rfl, hb⟩ := HX.out (by omega)
        have hcx : wr.cell? ⟨b, off + k, none⟩ = some (.int .u8 ((us.getD k 0).toNat : Int)) := (hbel.cell (by exact hb)).trans (hc k hlt)
        obtain ⟨u, hu⟩ := hOr.at k hlt
        have hfr := hOr.frozen k
        have R1 := hOr.set k (.int .u8 ((us.getD k 0).toNat : Int))
        have R2 := hBr.step ⟨u, hu⟩
        have R3 := hbel.setCell (p := ⟨w.heap.size, k, none⟩) (Nat.le_refl _) (.int .u8 ((us.getD k 0).toNat : Int))
        generalize us.getD k 0 = y at hcx R1 R2 R3
        clear hOr hBr hbel HX hc
        go_wp2
        go_roundw
        case rel => exact ⟨k + 1, by omega, by go_num, R1, R2, R3⟩
        case measure => simp [intOf]; omega
      · have : k = len := by omega
        subst this
        clear HX hc
        go_wp2
        go_ret
        exact ⟨_, w.heap.size, _, rfl, fun _ => ⟨rfl, hOr.lt⟩, Nat.le_refl _, hBr, hbel⟩

set_option maxHeartbeats 400000 in
/-- sameBytes at two rows that hold the same. -/
theorem same_any (a1 a2 : Option Addr) (g1 g2 n c1 c2 : Nat) (us : List UInt8) (w : World) (h20 : n ≤ 524288) (h1 : 0 < n → a1 = some ⟨g1, 0, none⟩) (h2 : 0 < n → a2 = some ⟨g2, 0, none⟩) (hc1 : Bytes w g1 0 us n) (hc2 : Bytes w g2 0 us n) :
    Calls Try.prog 12 #[.slice a1 n c1, .slice a2 n c2] w fun e w' => e = .returned (.bool true) ∧ Below w.heap.size w w' := by
  have H1 := hide h1
  have H2 := hide h2
  clear h1 h2
  go_enter Try.func12, Try.ntmps12
  go_wp2
  go_loopw [5] (fun i wr => ∃ k q : Nat, k ≤ n ∧ i = .int .i64 k ∧ wr = w.drewN q) (fun i _ => n - (intOf i).toNat)
  case atStart => exact ⟨0, 0, Nat.zero_le _, rfl, rfl⟩
  case round =>
    obtain ⟨k, q, hk, rfl, rfl⟩ := hrel
    by_cases hlt : k < n
    · have hcx := hc1 k hlt
      have hcy := hc2 k hlt
      rw [Nat.zero_add] at hcx hcy
      obtain rfl := H1.out (by omega)
      obtain rfl := H2.out (by omega)
      obtain ⟨x, hx⟩ : ∃ x, us.getD k 0 = x := ⟨_, rfl⟩
      rw [hx] at hcx hcy
      clear hx hc1 hc2 H1 H2
      go_wp2
      go_quiet (fail)
      go_wp2
      go_roundw
      case rel => exact ⟨k + 1, _, by omega, by go_num, rfl⟩
      case measure => simp [intOf]; omega
    · clear hc1 hc2 H1 H2
      go_wp2
      go_ret
      exact ⟨rfl, ⟨rfl, rfl, rfl, Nat.le_refl _, fun _ _ => rfl⟩⟩
end Go.Proofs.Qxb6601858a
