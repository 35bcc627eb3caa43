import Derived.Test.Qxb6601681aRows
import Derived.Test.Qxb6601681aNullOpen
import Derived.WalkKit
import Derived.ProofKit
import Derived.OpenShut
import Derived.ShutString
import Derived.ChangeOld
import Derived.Below
namespace Go.Proofs.Qxb6601681a.fnNonStringNullingAKeyGivesTheLesser
open Go.ChangeShapes Go.WideShapes Go.ChangeAt Go.RowKit Go.Maps
open Go.ChangeMaps (open_string shut_string)
set_option linter.unusedVariables false

theorem own : ownKnob Try.prog.godebug = none := by kernel_rfl
theorem laidOut : laidOutB Try.prog = true := by kernel_rfl

set_option maxHeartbeats 1000000 in
/-- The walk, whatever the sizes. -/
theorem walk (p : Option Nat) (n : Nat) (D : DataW Value) (a : Option Addr) (b off cap : Nat) (ss : List ByteArray) (k : ByteArray) (w : World) (hl : ss.length ≤ maxLen) (hks : k.size ≤ maxLen) (hnil : a = none → ss = [])
    (hp : Pm w p n D) (hg : GoodArg w D) (hk : KeysAt w a b off ss) :
    Calls Try.prog 8 #[.map p, .slice a ss.length cap, .string k] w fun e w' => e = .returned (.bool true) ∧ Below w.heap.size w w' := by
  by_cases c1 : Maps.size D ≤ 65536
  · by_cases c2 : ss.length ≤ 65536
    · by_cases c3 : k.size ≤ 1048576
      · exact top_in p n D a b off cap ss k w c2 c1 c3 hnil hp hg hk
      · have d1 : decide ((65536 : Int) < (Maps.size D : Int)) = false := by simp; omega
        have d2 : decide ((65536 : Int) < (ss.length : Int)) = false := by simp; omega
        have d3 : decide ((1048576 : Int) < (k.size : Int)) = true := by simp; omega
        have HP := mhide hp
        clear hp hg hk hnil
        go_enter Try.func8, Try.ntmps8
        go_wp2_with (at_len; refine wpList_len_pm rfl _ rfl p n D rfl HP.out ?_)
        go_ret
        exact ⟨rfl, Below.refl _ _⟩
    · have d1 : decide ((65536 : Int) < (Maps.size D : Int)) = false := by simp; omega
      have d2 : decide ((65536 : Int) < (ss.length : Int)) = true := by simp; omega
      have HP := mhide hp
      clear hp hg hk hnil
      go_enter Try.func8, Try.ntmps8
      go_wp2_with (at_len; refine wpList_len_pm rfl _ rfl p n D rfl HP.out ?_)
      go_ret
      exact ⟨rfl, Below.refl _ _⟩
  · have d1 : decide ((65536 : Int) < (Maps.size D : Int)) = true := by simp; omega
    have HP := mhide hp
    clear hp hg hk hnil
    go_enter Try.func8, Try.ntmps8
    go_wp2_with (at_len; refine wpList_len_pm rfl _ rfl p n D rfl HP.out ?_)
    go_ret
    exact ⟨rfl, Below.refl _ _⟩

/-- What the walk is told of the keys that came in. -/
def IsKeys (w : World) (a : Option Addr) (len cap : Nat) : Prop := ∃ ss b off, ss.length = len ∧ len ≤ maxLen ∧ (a = none → ss = []) ∧ KeysAt w a b off ss

set_option maxRecDepth 100000 in
theorem lifted (os : Os) (started : os.Started) (H : Type) (enc : TypeId × Value → H) :
    ReturnsInHanded {} Try.checked os 8 .any (Rows.fnNonStringNullingAKeyGivesTheLesserSpec.pre6 enc Try.prog Try.f8 Rows.fnNonStringNullingAKeyGivesTheLesserRow.domain false) (Rows.fnNonStringNullingAKeyGivesTheLesserSpec.post enc Try.prog Try.f8 false true false false) := by
  refine returnsInHanded_of_change (C := Try.checked) own started (by kernel_rfl) Try.func8
    (ChangeSpec.witness6 (enc := enc) (C := Try.checked) false ⟨#[], #[.map none, .slice none 0 0, .string ByteArray.empty], []⟩ 8 (by kernel_rfl) (by kernel_rfl) (by kernel_rfl) (by kernel_rfl)) ?_
  intro W base args ds gs before hval0 hW hcnd _
  have hval : ∀ (j : Nat) t v, Try.f8.params[j]? = some t → args[j]? = some v → Value.okWide Try.prog W .any base t v := hval0
  have hW' := hW
  obtain ⟨p, q, hA0, hV, rfl, hfz, hnd⟩ := hW
  have hA : DataW.TrodAll enc Try.prog W 0 (fun _ => true) true Try.f8.params.toList args.toList ds p := hA0
  rw [Try.params8] at hA hval
  obtain ⟨v0, vs0, d0, ds0, p0, q0, hargs, rfl, rfl, h0, r0⟩ := trodAll_cons hA
  obtain ⟨v1, vs1, d1, ds1, p1, q1, rfl, rfl, rfl, h1, r1⟩ := trodAll_cons r0
  obtain ⟨v2, vs2, d2, ds2, p2, q2, rfl, rfl, rfl, h2, r2⟩ := trodAll_cons r1
  obtain ⟨rfl, rfl, rfl⟩ := trodAll_nil r2
  obtain rfl : args = #[v0, v1, v2] := by cases args; simp_all
  obtain ⟨rfl, rfl⟩ := trodVars_none hV
  obtain ⟨a0, rfl⟩ := okWide_map Try.underlying32 (hval 0 32 v0 rfl rfl)
  have k0 := h0
  have lt0 : ∀ x ∈ p0, x.block < W.heap.size := by obtain ⟨m, hm⟩ := k0; exact DataW.trod_lt m _ _ _ hm
  obtain ⟨n0, D, hPm, hGood⟩ : ∃ n D, Pm W a0 n D ∧ GoodArg W D := by
    obtain ⟨fuel, hf⟩ := h0
    rcases Go.WideElems.open_map Try.underlying32 hf with ⟨hcs, _⟩ | ⟨bm, es, clock, m, _, hcs, hb, _, F, _⟩
    · simp [Value.cells] at hcs
      subst hcs
      exact ⟨0, .map [], Or.inl ⟨rfl, rfl⟩, fun s => ⟨.slice none 0 0, [], rfl, Ptrs.nil W, fun j ad hj => absurd hj (by simp)⟩⟩
    · simp [Value.cells] at hcs
      subst hcs
      obtain ⟨D, hown, hg⟩ := map_own hb F
      exact ⟨_, D, Or.inr ⟨bm, rfl, hown⟩, hg⟩
  obtain ⟨a1, len1, cap1, rfl⟩ := okWide_slice Try.underlying33 (hval 1 33 v1 rfl rfl)
  have k1 := h1
  have lt1 : ∀ x ∈ p1, x.block < W.heap.size := by obtain ⟨m, hm⟩ := k1; exact DataW.trod_lt m _ _ _ hm
  obtain ⟨ss, b, off, rfl, hlm, hnil, hK⟩ : IsKeys W a1 len1 cap1 := by
    obtain ⟨fuel, hf⟩ := h1
    rcases open_strings Try.underlying33 Try.underlying9 Try.cells9 hf with ⟨hcs, _⟩ | ⟨x, l, c, zs, hcs, _, hl, hm, hz, _, hcell, hws⟩
    · simp [Value.cells] at hcs
      obtain ⟨rfl, rfl, rfl⟩ := hcs
      exact ⟨[], 0, 0, rfl, Nat.zero_le _, fun _ => rfl, ⟨fun h => absurd h (by decide), fun j h => absurd h (by simp), fun s h => absurd h (by simp)⟩⟩
    · simp [Value.cells] at hcs
      obtain ⟨rfl, rfl, rfl⟩ := hcs
      simp at hz
      obtain ⟨b, off, spot⟩ := x
      have hspot : 0 < len1 → spot = none := fun h0 => by
        have hc := hcell 0 (by omega)
        simpa [Addr.add] using World.cell?_spot hc
      refine ⟨zs.take len1, b, off, by simp; omega, by omega, fun h => (by cases h), ⟨fun h => ?_, fun j hj => ?_, fun s hs => hws s (List.mem_of_mem_take hs)⟩⟩
      · simp at h
        rw [hspot (by omega)]
      · simp at hj
        have := hcell j (by omega)
        have hs := hspot (by omega)
        subst hs
        rw [Addr.add_lit] at this
        rw [this]
        simp [show j < len1 by omega]
  obtain ⟨a2, rfl, rfl, rfl, w2⟩ := open_string Try.underlying9 (hval 2 9 v2 rfl rfl) h2
  clear hA0 hval0
  refine (walk a0 n0 D a1 b off cap1 ss a2 W hlm w2 hnil hPm hGood hK).mono fun e W' ⟨he, bel⟩ => ?_
  subst he
  exact ⟨_, rfl, _, _, _, [], _, [], hW', trodAll_mk1 (shut_bool Try.underlying4 _), (trodAll_cons_mk (Below.trod laidOut (by kernel_rfl) (of_decide_eq_true (by kernel_rfl)) k0 bel lt0) (trodAll_cons_mk (Below.trod laidOut (by kernel_rfl) (of_decide_eq_true (by kernel_rfl)) k1 bel lt1) (trodAll_cons_mk (shut_string Try.underlying9 w2) trodAll_mk0))), rfl, bel.frame _, fun h => by cases h⟩

theorem over : Rows.fnNonStringNullingAKeyGivesTheLesserRow.holds Try.pinned (OpenSpec.ofChange Rows.fnNonStringNullingAKeyGivesTheLesserSpec) :=
  OpenClaim.holds_of_wide 8 Try.f8 rfl rfl rfl rfl rfl rfl rfl ⟨rfl, rfl, rfl, rfl, rfl⟩ rfl rfl rfl rfl rfl (by kernel_rfl) Try.func8 (by kernel_rfl)
    (of_decide_eq_true (by kernel_rfl)) (by unfold Func.isWrapper; first | (rw [if_pos (by decide +kernel)]; kernel_rfl) | (rw [if_neg (by decide +kernel)]; exact ⟨rfl, rfl⟩))
    (fun os started H enc _ => lifted os started H enc)

theorem proved : Rows.FnNonStringNullingAKeyGivesTheLesserSaid := over
end Go.Proofs.Qxb6601681a.fnNonStringNullingAKeyGivesTheLesser

namespace Go.Proofs.Qxb6601681a
theorem FnNonStringNullingAKeyGivesTheLesser_proved : Rows.FnNonStringNullingAKeyGivesTheLesserSaid := fnNonStringNullingAKeyGivesTheLesser.proved
end Go.Proofs.Qxb6601681a
