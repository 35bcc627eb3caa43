import Derived.Test.Qxb6601681aMapBase
namespace Go.Proofs.Qxb6601681a
open Go.RowKit Go.Maps
set_option linter.unusedSimpArgs false
set_option linter.unusedVariables false

/-- A slice of strings. -/
structure KeysAt (w : World) (a : Option Addr) (b off : Nat) (ss : List ByteArray) : Prop where
  addr : 0 < ss.length → a = some ⟨b, off, none⟩
  cells : ∀ j, j < ss.length → w.cell? ⟨b, off + j, none⟩ = some (.string (ss.getD j ByteArray.empty))
  sizes : ∀ s ∈ ss, s.size ≤ maxLen
theorem KeysAt.keep {w w' : World} {a : Option Addr} {b off : Nat} {ss : List ByteArray} (h : KeysAt w a b off ss) (k : Keeps w w') : KeysAt w' a b off ss :=
  ⟨h.addr, fun j hj => k _ _ (h.cells j hj), h.sizes⟩
theorem KeysAt.size {w : World} {a : Option Addr} {b off : Nat} {ss : List ByteArray} (h : KeysAt w a b off ss) (j : Nat) (hj : j < ss.length) : (ss.getD j ByteArray.empty).size ≤ maxLen := by
  apply h.sizes
  simp [List.getD, List.getElem?_eq_getElem hj]

/-- Each pointer that is not nil leads to a string. -/
def Strs (w : World) (ps : List (Option Addr)) : Prop := ∀ j ad, j < ps.length → ps.getD j none = some ad → ∃ s, w.cell? ad = some (.string s) ∧ s.size ≤ maxLen
def GoodArg (w : World) (D : DataW Value) : Prop := ∀ s : ByteArray, ∃ v ps, D.atKey (kL s) zd = .held v ∧ Ptrs w v ps ∧ Strs w ps
theorem GoodArg.keep {w w' : World} {D : DataW Value} (h : GoodArg w D) (k : Keeps w w') : GoodArg w' D := by
  intro s
  obtain ⟨v, ps, h1, h2, h3⟩ := h s
  refine ⟨v, ps, h1, h2.keep k, fun j ad hj e => ?_⟩
  obtain ⟨t, ht, hs⟩ := h3 j ad hj e
  exact ⟨t, k _ _ ht, hs⟩

/-- A look-up in the argument, with what comes back. -/
theorem look_arg {w : World} {p : Option Nat} {n : Nat} {D : DataW Value} (hp : Pm w p n D) (hg : GoodArg w D) (s : ByteArray) (hs : s.size ≤ maxLen) :
    ∃ v ps, D.atKey (kL s) zd = .held v ∧ Ptrs w v ps ∧ Strs w ps ∧ (Instr.lookup 32 (.map p) (.string s) false).run Try.prog w = .ok v w := by
  obtain ⟨v, h1, h2, _⟩ := hp.look s hs
  obtain ⟨v', ps, h3, h4, h5⟩ := hg s
  have e : v' = v := by rw [h1] at h3; cases h3; rfl
  rw [e] at h4
  exact ⟨v, ps, h1, h4, h5, h2 0⟩

/-- 'len(m)'. -/
theorem wpList_len_pm {w : World} {ops : Array Oper} {rest : List Oper} {o : Oper} {a : Act} {Q : Exit → Act → World → Prop} (hg : o.guard = none) (m : Operand) (hop : o.op = Op.call { callee := Callee.builtin Builtin.len, args := #[m], argTypes := #[32] })
    (p : Option Nat) (n : Nat) (D : DataW Value) (hm : a.eval m = .map p) (hp : Pm w p n D) (hK : wpList Try.prog ops Q rest (a.put o.dst (.int .i64 (Maps.size D))) w) : wpList Try.prog ops Q (o :: rest) a w := by
  rcases hp with ⟨rfl, rfl⟩ | ⟨b, rfl, hown⟩
  · refine wpList_plain hg fun K' hK' => ?_
    unfold Oper.wp
    simp [execOp, hop, resolve, invoke, builtin, hm, len_nil Try.underlying32 o.type, Result.andThen]
    exact hK' _ _ hK
  · exact wpList_len_own w hg m 32 hop 9 42 Try.underlying32 raw b n D hm hown hK

def IntRet (e : Ending) : Prop := ∃ t : Int, e = .returned (.int .i64 t) ∧ 0 ≤ t ∧ t ≤ 2097153

set_option maxHeartbeats 1000000 in
theorem keyBytes_any (a : Option Addr) (b off cap : Nat) (ss : List ByteArray) (w : World) (hn : ss.length ≤ 65536) (hk : KeysAt w a b off ss) :
    Calls Try.prog 19 #[.slice a ss.length cap] w fun e w' => IntRet e ∧ w' = w := by
  have HK := mhide hk
  clear hk
  go_enter Try.func19, Try.ntmps19
  go_wp2
  go_loop [3, 4] (fun t i => ∃ (k : Nat) (T : Int), k ≤ ss.length ∧ i = .int .i64 k ∧ t = .int .i64 T ∧ 0 ≤ T ∧ T ≤ 1048576) (fun _ i => ss.length - (intOf i).toNat)
  case atStart => exact ⟨0, 0, Nat.zero_le _, rfl, rfl, by omega, by omega⟩
  case round =>
    obtain ⟨k, T, hk, rfl, rfl, hT0, hT1⟩ := hrel
    by_cases hlt : k < ss.length
    · obtain rfl := HK.out.addr (by omega)
      have hcx := HK.out.cells k hlt
      obtain ⟨s, hs⟩ : ∃ s, ss.getD k ByteArray.empty = s := ⟨_, rfl⟩
      rw [hs] at hcx
      clear hs HK
      by_cases c1 : (1048576 : Int) < (s.size : Int)
      · go_wp2
        go_ret
        exact ⟨⟨_, rfl, by omega, by omega⟩, rfl⟩
      · by_cases c2 : (1048576 : Int) < T + (s.size : Int)
        · go_wp2
          go_ret
          exact ⟨⟨_, rfl, by omega, by omega⟩, rfl⟩
        · go_wp2
          go_round
          case rel => exact ⟨k + 1, T + s.size, by omega, by go_num, rfl, by omega, by omega⟩
          case measure => simp [intOf]; omega
    · clear HK
      go_wp2
      go_ret
      exact ⟨⟨_, rfl, by omega, by omega⟩, rfl⟩

def BoolRet (P : Prop) (e : Ending) : Prop := ∃ bb : Bool, e = .returned (.bool bb) ∧ (bb = true → P)

set_option maxHeartbeats 1000000 in
theorem keysOf_any (p : Option Nat) (n : Nat) (D : DataW Value) (a : Option Addr) (b off cap : Nat) (ss : List ByteArray) (w : World) (hn : ss.length ≤ 65536) (hsz : Maps.size D ≤ 65536) (hp : Pm w p n D) (hk : KeysAt w a b off ss) :
    Calls Try.prog 20 #[.map p, .slice a ss.length cap] w fun e w' => BoolRet (Maps.size D = ss.length) e ∧ Below w.heap.size w w' := by
  have HK := mhide hk
  have HP := mhide hp
  clear hk hp
  by_cases hne : Maps.size D = ss.length
  · have HN := mhide hne
    have hnb : ((ss.length : Int) != (Maps.size D : Int)) = false := by simp; omega
    clear hne
    go_enter Try.func20, Try.ntmps20
    go_wp2_with (at_len; refine wpList_len_pm rfl _ rfl p n D rfl HP.out ?_)
    go_loopw [5] (fun i wr => ∃ k q : Nat, k ≤ ss.length ∧ i = .int .i64 k ∧ wr = w.drewN q) (fun i _ => ss.length - (intOf i).toNat)
    case atStart => exact ⟨0, 0, Nat.zero_le _, rfl, rfl⟩
    case round =>
      obtain ⟨k, q, hk, rfl, rfl⟩ := hrel
      by_cases hlt : k < ss.length
      · obtain rfl := HK.out.addr (by omega)
        have hcx := HK.out.cells k hlt
        have hss := HK.out.size k hlt
        obtain ⟨s, hs⟩ : ∃ s, ss.getD k ByteArray.empty = s := ⟨_, rfl⟩
        rw [hs] at hcx hss
        obtain ⟨v, _, _, hl⟩ := HP.out.look s hss
        obtain ⟨B, hB⟩ : ∃ B, Maps.has D (kL s) = B := ⟨_, rfl⟩
        rw [hB] at hl
        clear hs hB
        by_cases h0 : 0 < k
        · have h0' : decide ((0 : Int) < (k : Int)) = true := by simp; omega
          have hcy := HK.out.cells (k - 1) (by omega)
          obtain ⟨t, ht⟩ : ∃ t, ss.getD (k - 1) ByteArray.empty = t := ⟨_, rfl⟩
          rw [ht] at hcy
          clear ht HK HP
          rcases hc : Op.bytesLess t.toList s.toList with _ | _
          · go_wp2
            go_quiet (fail)
            go_wp2
            go_ret
            exact ⟨⟨_, rfl, fun _ => HN.out⟩, ⟨rfl, rfl, rfl, Nat.le_refl _, fun _ _ => rfl⟩⟩
          · rcases B with _ | _
            · go_wp2
              go_quiet (fail)
              go_wp2
              go_ret
              exact ⟨⟨_, rfl, fun _ => HN.out⟩, ⟨rfl, rfl, rfl, Nat.le_refl _, fun _ _ => rfl⟩⟩
            · go_wp2
              go_quiet (fail)
              go_wp2
              go_roundw
              case rel => exact ⟨k + 1, _, by omega, by go_num, rfl⟩
              case measure => simp [intOf]; omega
        · have h0' : decide ((0 : Int) < (k : Int)) = false := by simp; omega
          clear HK HP
          rcases B with _ | _
          · go_wp2
            go_quiet (fail)
            go_wp2
            go_ret
            exact ⟨⟨_, rfl, fun _ => HN.out⟩, ⟨rfl, rfl, rfl, Nat.le_refl _, fun _ _ => rfl⟩⟩
          · go_wp2
            go_quiet (fail)
            go_wp2
            go_roundw
            case rel => exact ⟨k + 1, _, by omega, by go_num, rfl⟩
            case measure => simp [intOf]; omega
      · clear HK HP
        go_wp2
        go_ret
        exact ⟨⟨_, rfl, fun _ => HN.out⟩, ⟨rfl, rfl, rfl, Nat.le_refl _, fun _ _ => rfl⟩⟩
  · have hnb : ((ss.length : Int) != (Maps.size D : Int)) = true := by simp; omega
    clear hne
    go_enter Try.func20, Try.ntmps20
    go_wp2_with (at_len; refine wpList_len_pm rfl _ rfl p n D rfl HP.out ?_)
    go_ret
    exact ⟨⟨_, rfl, fun h => by cases h⟩, Below.refl _ _⟩
end Go.Proofs.Qxb6601681a
