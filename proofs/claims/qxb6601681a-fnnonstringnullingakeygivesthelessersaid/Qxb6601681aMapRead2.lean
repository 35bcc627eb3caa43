import Derived.Test.Qxb6601681aMapRead
namespace Go.Proofs.Qxb6601681a
open Go.RowKit Go.Maps
set_option linter.unusedSimpArgs false
set_option linter.unusedVariables false

/-- The slice at the key is short. -/
def LenOk (D : DataW Value) (s : ByteArray) : Prop := ∀ a m c, D.atKey (kL s) zd = .held (.slice a m c) → m ≤ 131072
def BytesRet (D : DataW Value) (ss : List ByteArray) (e : Ending) : Prop := ∃ t : Int, e = .returned (.int .i64 t) ∧ 0 ≤ t ∧ t ≤ 2097153 ∧ (t ≤ 1048576 → ∀ i, i < ss.length → LenOk D (ss.getD i ByteArray.empty))
theorem lenOk_step {D : DataW Value} {ss : List ByteArray} {k m c : Nat} {a : Option Addr} (h : ∀ i, i < k → LenOk D (ss.getD i ByteArray.empty)) (hv : D.atKey (kL (ss.getD k ByteArray.empty)) zd = .held (.slice a m c)) (hm : m ≤ 131072) :
    ∀ i, i < k + 1 → LenOk D (ss.getD i ByteArray.empty) := by
  intro i hi
  by_cases e : i = k
  · subst e
    intro a2 m2 c2 h2
    rw [hv] at h2
    cases h2
    exact hm
  · exact h i (by omega)

set_option maxHeartbeats 2000000 in
theorem valueBytes_any (p : Option Nat) (n : Nat) (D : DataW Value) (a : Option Addr) (b off cap : Nat) (ss : List ByteArray) (w : World) (hn : ss.length ≤ 65536) (hp : Pm w p n D) (hg : GoodArg w D) (hk : KeysAt w a b off ss) :
    Calls Try.prog 21 #[.map p, .slice a ss.length cap] w fun e w' => BytesRet D ss e ∧ w' = w := by
  have HK := mhide hk
  have HP := mhide hp
  have HG := mhide hg
  clear hk hp hg
  go_enter Try.func21, Try.ntmps21
  go_wp2
  go_loop [5, 6] (fun t i => ∃ (k : Nat) (T : Int), k ≤ ss.length ∧ i = .int .i64 k ∧ t = .int .i64 T ∧ 0 ≤ T ∧ T ≤ 1048576 ∧ Hid (∀ i, i < k → LenOk D (ss.getD i ByteArray.empty))) (fun _ i => ss.length - (intOf i).toNat)
  case atStart => exact ⟨0, 0, Nat.zero_le _, rfl, rfl, by omega, by omega, fun i h => absurd h (Nat.not_lt_zero _)⟩
  case round =>
    obtain ⟨k, T, hk, rfl, rfl, hT0, hT1, HLK⟩ := hrel
    by_cases hlt : k < ss.length
    · obtain rfl := HK.out.addr (by omega)
      have hcx := HK.out.cells k hlt
      have hss := HK.out.size k hlt
      obtain ⟨s, hs⟩ : ∃ s, ss.getD k ByteArray.empty = s := ⟨_, rfl⟩
      rw [hs] at hcx hss
      obtain ⟨v, ps, hat, hP, hS, hl⟩ := look_arg HP.out HG.out s hss
      obtain ⟨a2, b2, off2, cap2, rfl, ha0, ha1, hcell, hL⟩ := hP
      have HST : Hid (ps.length ≤ 131072 → ∀ i, i < k + 1 → LenOk D (ss.getD i ByteArray.empty)) := fun hm => lenOk_step HLK.out (by rw [hs]; exact hat) hm
      clear hat HLK
      have HA1 := mhide ha1
      have HC := mhide hcell
      have HS := mhide hS
      clear hs HK HP HG ha0 ha1 hcell hS
      unfold maxLen at hL hss
      by_cases c1 : (131072 : Int) < (ps.length : Int)
      · go_wp2
        go_ret
        exact ⟨⟨_, rfl, by omega, by omega, fun h => absurd h (by omega)⟩, rfl⟩
      · by_cases c2 : (1048576 : Int) < T + 8 * (ps.length : Int)
        · go_wp2
          go_ret
          exact ⟨⟨_, rfl, by omega, by omega, fun h => absurd h (by omega)⟩, rfl⟩
        · go_wp2
          go_loop [5, 8] (fun t i => ∃ (j : Nat) (T : Int), j ≤ ps.length ∧ i = .int .i64 j ∧ t = .int .i64 T ∧ 0 ≤ T ∧ T ≤ 1048576) (fun _ i => ps.length - (intOf i).toNat)
          case atStart => exact ⟨0, _, Nat.zero_le _, rfl, rfl, by omega, by omega⟩
          case round =>
            obtain ⟨j, T2, hj, rfl, rfl, hU0, hU1⟩ := hrel
            by_cases hjl : j < ps.length
            · obtain rfl := HA1.out (by omega)
              have hcy := HC.out j hjl
              obtain ⟨ao, hao⟩ : ∃ ao, ps.getD j none = ao := ⟨_, rfl⟩
              rw [hao] at hcy
              rcases ao with _ | ad
              · clear hao HS HC HA1
                go_wp2
                go_round
                case rel => exact ⟨j + 1, T2, by omega, by go_num, rfl, by omega, by omega⟩
                case measure => simp [intOf]; omega
              · obtain ⟨t, ht, hts⟩ := HS.out j ad hjl hao
                unfold maxLen at hts
                clear hao HS HC HA1
                by_cases d1 : (1048576 : Int) < (t.size : Int)
                · go_wp2
                  go_ret
                  exact ⟨⟨_, rfl, by omega, by omega, fun h => absurd h (by omega)⟩, rfl⟩
                · by_cases d2 : (1048576 : Int) < T2 + (t.size : Int)
                  · go_wp2
                    go_ret
                    exact ⟨⟨_, rfl, by omega, by omega, fun h => absurd h (by omega)⟩, rfl⟩
                  · go_wp2
                    go_round
                    case rel => exact ⟨j + 1, T2 + t.size, by omega, by go_num, rfl, by omega, by omega⟩
                    case measure => simp [intOf]; omega
            · clear HS HC HA1
              go_wp2
              go_round
              case rel => exact ⟨k + 1, T2, by omega, by go_num, rfl, by omega, by omega, HST.out (by omega)⟩
              case measure => simp [intOf]; omega
    · clear HK HP HG
      go_wp2
      go_ret
      exact ⟨⟨_, rfl, by omega, by omega, fun _ i h => HLK.out i (by omega)⟩, rfl⟩

theorem Try.info9 : (Try.prog.info? 9).map (fun i => (i.zero, i.size, i.bytes)) = some (some (.string ⟨#[]⟩), 1, 16) := by kernel_rfl

/-- A row of the call's own. -/
def OwnedE (e : TypeId) (w : World) (B len : Nat) : Prop := ∃ xs, w.ownsRow B e 1 (.slice (some ⟨B, 0, none⟩) len len) len xs
theorem OwnedE.at {e : TypeId} {w : World} {B len : Nat} (h : OwnedE e w B len) (k : Nat) (hk : k < len) : ∃ u, w.cell? ⟨B, k, none⟩ = some u := by
  obtain ⟨xs, h⟩ := h
  have e := h.cellAt k (by omega)
  have hl : xs.length = len * 1 := h.1
  exact ⟨xs[k]'(by omega), by rw [e]; simp [show k < xs.length by omega]⟩
theorem OwnedE.frozen {e : TypeId} {w : World} {B len : Nat} (h : OwnedE e w B len) (k : Nat) : w.frozen? ⟨B, k, none⟩ = false := by
  obtain ⟨xs, h⟩ := h
  exact h.frozenAt k
theorem OwnedE.set {e : TypeId} {w : World} {B len : Nat} (h : OwnedE e w B len) (k : Nat) (u : Value) : OwnedE e (w.setCell ⟨B, k, none⟩ u) B len := by
  obtain ⟨xs, h⟩ := h
  exact ⟨_, (h.stored k u).1⟩
theorem OwnedE.alloc {e : TypeId} {w : World} {B len : Nat} (h : OwnedE e w B len) (o : Obj) : OwnedE e (w.alloc o) B len := by
  obtain ⟨xs, h⟩ := h
  exact ⟨_, h.alloc o⟩
theorem OwnedE.lt {e : TypeId} {w : World} {B len : Nat} (h : OwnedE e w B len) : B < w.heap.size := by
  obtain ⟨xs, h⟩ := h
  exact (h.lt B rfl).2

/-- The keys' cells so far. -/
def StrCells (w : World) (B : Nat) (ss : List ByteArray) (k : Nat) : Prop := ∀ i, i < k → w.cell? ⟨B, 0 + i, none⟩ = some (.string (ss.getD i ByteArray.empty))
theorem StrCells.step {w : World} {B k : Nat} {ss : List ByteArray} (h : StrCells w B ss k) (hs : ∃ u, w.cell? ⟨B, k, none⟩ = some u) :
    StrCells (w.setCell ⟨B, k, none⟩ (.string (ss.getD k ByteArray.empty))) B ss (k + 1) := by
  intro i hi
  by_cases e : i = k
  · subst e
    obtain ⟨u, hu⟩ := hs
    rw [Nat.zero_add, World.cell?_setCell_same _ _ _ hu]
  · rw [World.cell?_setCell_other _ _ _ _ (by first | (simp; done) | (simp; omega))]
    exact h i (by omega)

def KeysRet (ss : List ByteArray) (w' : World) (e : Ending) : Prop := ∃ a g c, e = .returned (.slice a ss.length c) ∧ KeysAt w' a g 0 ss

set_option maxHeartbeats 1000000 in
theorem copyKeys_any (a : Option Addr) (b off cap : Nat) (ss : List ByteArray) (w : World) (hn : ss.length ≤ 65536) (hnil : a = none → ss = []) (hk : KeysAt w a b off ss) :
    Calls Try.prog 23 #[.slice a ss.length cap] w fun e w' => KeysRet ss w' e ∧ Below w.heap.size w w' := by
  obtain ⟨i0, hi, hz0, hz1, hz2⟩ := info_parts Try.info9
  have q33 : ∀ (w : World) (a : Option Addr) (n c n' c' : Nat), (binOp .eql 33 (.slice a n c) (.slice none n' c')).run Try.prog w = .ok (.bool a.isNone) w := fun w a n c n' c' => Lib.run_eql_slice_nil w _ _ a n c n' c' Try.underlying33
  have HK := mhide hk
  clear hk
  rcases a with _ | x
  · have := hnil rfl
    subst this
    go_enter Try.func23, Try.ntmps23
    go_wp2
    go_ret
    exact ⟨⟨none, 0, 0, rfl, ⟨fun h => absurd h (by decide), fun j h => absurd h (by simp), fun s h => absurd h (by simp)⟩⟩, Below.refl _ _⟩
  · clear hnil
    go_enter Try.func23, Try.ntmps23
    go_wp2_with (at_make; refine wpList_make_full _ rfl _ _ 33 rfl w.heap.size 9 i0 (.string ⟨#[]⟩) 1 Try.underlying33 hi hz0 hz1 _ _ _ _ ss.length rfl rfl rfl rfl (by rw [hz2]; omega) (by unfold maxLen; omega) (Nat.le_refl _) ?_)
    intro w1 hown hgrow
    have hO : OwnedE 9 w1 w.heap.size ss.length := ⟨_, hown⟩
    have hB : Below w.heap.size w w1 := (Below.refl _ _).grown hgrow (Nat.le_refl _) (fun k h => by cases h)
    clear hown hgrow
    go_wp2
    go_loopw [4] (fun i wr => ∃ k : Nat, k ≤ ss.length ∧ i = .int .i64 k ∧ OwnedE 9 wr w.heap.size ss.length ∧ StrCells wr w.heap.size ss k ∧ Below w.heap.size w wr) (fun i _ => ss.length - (intOf i).toNat)
    case atStart => exact ⟨0, Nat.zero_le _, rfl, hO, fun i hi => absurd hi (Nat.not_lt_zero _), hB⟩
    case round =>
      obtain ⟨k, hk, rfl, hOr, hBr, hbel⟩ := hrel
      clear hO hB
      by_cases hlt : k < ss.length
      · have hadr := HK.out.addr (by omega)
        have hcx0 := HK.out.cells k hlt
        cases hadr
        have hcx : wr.cell? ⟨b, off + k, none⟩ = some (.string (ss.getD k ByteArray.empty)) := cell_later hbel hcx0
        obtain ⟨u, hu⟩ := hOr.at k hlt
        have hfr := hOr.frozen k
        have R1 := hOr.set k (.string (ss.getD k ByteArray.empty))
        have R2 := hBr.step ⟨u, hu⟩
        have R3 := hbel.setCell (p := ⟨w.heap.size, k, none⟩) (Nat.le_refl _) (.string (ss.getD k ByteArray.empty))
        generalize ss.getD k ByteArray.empty = y at hcx R1 R2 R3
        clear hOr hBr hbel HK hcx0
        go_wp2
        go_roundw
        case rel => exact ⟨k + 1, by omega, by go_num, R1, R2, R3⟩
        case measure => simp [intOf]; omega
      · have hkn : k = ss.length := by omega
        have HR : Hid (KeysAt wr (some ⟨w.heap.size, 0, none⟩) w.heap.size 0 ss) := ⟨fun _ => rfl, fun j hj => hBr j (by omega), HK.out.sizes⟩
        clear HK hkn hBr
        go_wp2
        go_ret
        exact ⟨⟨_, _, _, rfl, HR.out⟩, hbel⟩
end Go.Proofs.Qxb6601681a
