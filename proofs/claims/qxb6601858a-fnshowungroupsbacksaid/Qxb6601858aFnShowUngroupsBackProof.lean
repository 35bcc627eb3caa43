import Derived.Test.Qxb6601858aRows
import Derived.Test.Qxb6601858aUngroup
import Derived.WalkKit
import Derived.ProofKit
import Derived.OpenShut
import Derived.ShutString
import Derived.ChangeOld
import Derived.Below
namespace Go.Proofs.Qxb6601858a.fnShowUngroupsBack
open Go.ChangeShapes Go.WideShapes Go.ChangeAt Go.RowKit
open Go.ChangeMaps (open_string shut_string)
set_option linter.unusedVariables false

theorem own : ownKnob Try.prog.godebug = none := by kernel_rfl
theorem laidOut : laidOutB Try.prog = true := by kernel_rfl

/-- WHAT THE WALK IS TOLD OF A SLICE OF INTEGERS THAT CAME IN: it is nil; or it leads to a row of 'cap' cells, the numbers 'zs' (the first 'len' are its elements, the rest its spare room), each fitting its kind. -/
def IsRow (k : IntKind) (w : World) (a : Option Addr) (len cap : Nat) (zs : List Int) : Prop :=
  (a = none ∧ len = 0 ∧ cap = 0 ∧ zs = []) ∨
  ∃ x, a = some x ∧ len ≤ cap ∧ cap ≤ maxLen ∧ zs.length = cap ∧ (∀ i, i < zs.length → w.cell? (x.add i) = some (.int k (zs.getD i 0))) ∧ ∀ n ∈ zs, (Lit.int k n).wf = true

/-! ### STEP 1: THE WALK: the Go text returns true, AND WRITES NOTHING THAT WAS THERE: 'Below w.heap.size w w'' (Derived/Below.lean: '.refl', '.alloc', '.drew', '.setCell' at a new block, '.trans'). Open each 'IsRow' by 'rcases' AHEAD of 'go_enter'; part every test ahead of the walk. -/
theorem row_bytes {w : World} {a : Option Addr} {len cap : Nat} {zs : List Int} (h : IsRow .u8 w a len cap zs) : ∃ b off us, Came w a b off len cap ∧ Bytes w b off us len ∧ us.length = len := by
  rcases h with ⟨rfl, rfl, rfl, rfl⟩ | ⟨x, rfl, hl, hm, hz, hcell, hwz⟩
  · exact ⟨0, 0, [], Or.inl ⟨rfl, rfl⟩, fun i h => absurd h (by omega), rfl⟩
  · obtain ⟨b, off, spot⟩ := x
    have hx : 0 < len → (⟨b, off, spot⟩ : Addr) = ⟨b, off, none⟩ ∧ b < w.heap.size := fun h0 => by
      have hc := hcell 0 (by omega)
      have hspot : spot = none := by simpa [Addr.add] using World.cell?_spot hc
      subst hspot
      exact ⟨rfl, World.block_lt_of_cell? _ _ (show w.cell? ⟨b, off, none⟩ = _ by simpa [Addr.add] using hc)⟩
    refine ⟨b, off, (zs.take len).map (fun z => UInt8.ofNat z.toNat), Or.inr ⟨_, rfl, hx⟩, fun i hi => ?_, by simp; omega⟩
    have hsp := (hx (by omega)).1
    have := hcell i (by omega)
    rw [hsp, Addr.add_lit] at this
    rw [this]
    have hil : i < zs.length := by omega
    have hb := bounds_u8 (hwz (zs[i]) (List.getElem_mem hil))
    congr 2
    simp only [List.getD_eq_getElem?_getD, List.getElem?_map, List.getElem?_take, hi, hil, if_true, List.getElem?_eq_getElem, Option.map_some, Option.getD_some]
    simp
    omega
theorem row_len {w : World} {a : Option Addr} {len cap : Nat} {zs : List Int} (h : IsRow .u8 w a len cap zs) : len ≤ maxLen := by
  rcases h with ⟨rfl, rfl, rfl, rfl⟩ | ⟨x, rfl, hl, hm, hz, hcell, hwz⟩
  · exact Nat.zero_le _
  · omega

set_option maxHeartbeats 1000000 in
theorem walk (a0 : ByteArray) (a1 : ByteArray) (a2 : Int) (a3 : Int) (a4 : Option Addr) (len4 cap4 : Nat) (z4 : List Int) (w : World) (w0 : a0.size ≤ maxLen) (w1 : a1.size ≤ maxLen) (w2 : (Lit.int .i64 a2).wf = true) (w3 : (Lit.int .i64 a3).wf = true) (w4 : IsRow .u8 w a4 len4 cap4 z4) :
    Calls Try.prog 4 #[.string a0, .string a1, .int .i64 a2, .int .i64 a3, .slice a4 len4 cap4] w fun e w' => e = .returned (.bool true) ∧ Below w.heap.size w w' := by
  have hlen := row_len w4
  obtain ⟨b, off, us, hcame, hb, hus⟩ := row_bytes w4
  have m0 := w0
  have m1 := w1
  have m4 := hlen
  unfold maxLen at m0 m1 m4
  clear w4
  by_cases c1 : a0.size ≤ 262144
  · by_cases c2 : a1.size ≤ 262144
    · by_cases c3 : len4 ≤ 524288
      · by_cases c4 : a3 = 0
        · subst c4
          have d1 : decide ((262144 : Int) < (a0.size : Int)) = false := by simp; omega
          have d2 : decide ((262144 : Int) < (a1.size : Int)) = false := by simp; omega
          have d3 : decide ((524288 : Int) < (len4 : Int)) = false := by simp; omega
          go_enter Try.func4, Try.ntmps4
          go_wp2_with fail
          refine (zz11 a0 a1 a2 _ a4 len4 cap4 _ w0 w1 hlen).mono ?_
          rintro e w0 ⟨bb, rfl, rfl⟩
          rcases bb with _ | _
          all_goals
            go_wp2
            go_ret
            exact ⟨rfl, Below.refl _ _⟩
        · exact ungroup_in a0 a1 a2 a3 a4 b off len4 cap4 us w c1 c2 c3 c4 hcame hb hus
      · have d1 : decide ((262144 : Int) < (a0.size : Int)) = false := by simp; omega
        have d2 : decide ((262144 : Int) < (a1.size : Int)) = false := by simp; omega
        have d3 : decide ((524288 : Int) < (len4 : Int)) = true := by simp; omega
        go_enter Try.func4, Try.ntmps4
        go_wp2_with fail
        refine (zz11 a0 a1 a2 a3 a4 len4 cap4 _ w0 w1 hlen).mono ?_
        rintro e w0 ⟨bb, rfl, rfl⟩
        rcases bb with _ | _
        all_goals
          go_wp2
          go_ret
          exact ⟨rfl, Below.refl _ _⟩
    · have d1 : decide ((262144 : Int) < (a0.size : Int)) = false := by simp; omega
      have d2 : decide ((262144 : Int) < (a1.size : Int)) = true := by simp; omega
      go_enter Try.func4, Try.ntmps4
      go_wp2_with fail
      refine (zz11 a0 a1 a2 a3 a4 len4 cap4 _ w0 w1 hlen).mono ?_
      rintro e w0 ⟨bb, rfl, rfl⟩
      rcases bb with _ | _
      all_goals
        go_wp2
        go_ret
        exact ⟨rfl, Below.refl _ _⟩
  · have d1 : decide ((262144 : Int) < (a0.size : Int)) = true := by simp; omega
    go_enter Try.func4, Try.ntmps4
    go_wp2_with fail
    refine (zz11 a0 a1 a2 a3 a4 len4 cap4 _ w0 w1 hlen).mono ?_
    rintro e w0 ⟨bb, rfl, rfl⟩
    rcases bb with _ | _
    all_goals
      go_wp2
      go_ret
      exact ⟨rfl, Below.refl _ _⟩

/-! ### THE ROW's STEP: WRITTEN OUT: LEAVE IT -/
set_option maxRecDepth 100000 in
theorem lifted (os : Os) (started : os.Started) (H : Type) (enc : TypeId × Value → H) :
    ReturnsInHanded {} Try.checked os 4 .any (Rows.fnShowUngroupsBackSpec.pre6 enc Try.prog Try.f4 Rows.fnShowUngroupsBackRow.domain false) (Rows.fnShowUngroupsBackSpec.post enc Try.prog Try.f4 false true false false) := by
  refine returnsInHanded_of_change (C := Try.checked) own started (by kernel_rfl) Try.func4
    (ChangeSpec.witness6 (enc := enc) (C := Try.checked) false ⟨#[], #[.string ByteArray.empty, .string ByteArray.empty, .int .i64 0, .int .i64 0, .slice none 0 0], []⟩ 8 (by kernel_rfl) (by kernel_rfl) (by kernel_rfl) (by kernel_rfl)) ?_
  intro W base args ds gs before hval0 hW hcnd _
  have hval : ∀ (j : Nat) t v, Try.f4.params[j]? = some t → args[j]? = some v → Value.okWide Try.prog W .any base t v := hval0
  have hW' := hW
  obtain ⟨p, q, hA0, hV, rfl, hfz, hnd⟩ := hW
  have hA : DataW.TrodAll enc Try.prog W 0 (fun _ => true) true Try.f4.params.toList args.toList ds p := hA0
  rw [Try.params4] at hA hval
  obtain ⟨v0, vs0, d0, ds0, p0, q0, hargs, rfl, rfl, h0, r0⟩ := trodAll_cons hA
  obtain ⟨v1, vs1, d1, ds1, p1, q1, rfl, rfl, rfl, h1, r1⟩ := trodAll_cons r0
  obtain ⟨v2, vs2, d2, ds2, p2, q2, rfl, rfl, rfl, h2, r2⟩ := trodAll_cons r1
  obtain ⟨v3, vs3, d3, ds3, p3, q3, rfl, rfl, rfl, h3, r3⟩ := trodAll_cons r2
  obtain ⟨v4, vs4, d4, ds4, p4, q4, rfl, rfl, rfl, h4, r4⟩ := trodAll_cons r3
  obtain ⟨rfl, rfl, rfl⟩ := trodAll_nil r4
  obtain rfl : args = #[v0, v1, v2, v3, v4] := by cases args; simp_all
  obtain ⟨rfl, rfl⟩ := trodVars_none hV
  obtain ⟨a0, rfl, rfl, rfl, w0⟩ := open_string Try.underlying9 (hval 0 9 v0 rfl rfl) h0
  obtain ⟨a1, rfl, rfl, rfl, w1⟩ := open_string Try.underlying9 (hval 1 9 v1 rfl rfl) h1
  obtain ⟨a2, rfl, rfl, rfl, w2⟩ := open_int Try.underlying3 (hval 2 3 v2 rfl rfl) h2
  obtain ⟨a3, rfl, rfl, rfl, w3⟩ := open_int Try.underlying3 (hval 3 3 v3 rfl rfl) h3
  obtain ⟨a4, len4, cap4, rfl⟩ := okWide_slice Try.underlying22 (hval 4 22 v4 rfl rfl)
  have k4 := h4
  have lt4 : ∀ x ∈ p4, x.block < W.heap.size := by obtain ⟨m, hm⟩ := k4; exact DataW.trod_lt m _ _ _ hm
  obtain ⟨z4, w4⟩ : ∃ zs, IsRow .u8 W a4 len4 cap4 zs := by
    obtain ⟨fuel, hf⟩ := h4
    rcases open_ints Try.underlying22 Try.underlying5 (by kernel_rfl) hf with ⟨hcs, _⟩ | ⟨x, l, c, zs, hcs, _, hl, hm, hz, _, hcell, hwz⟩
    · simp [Value.cells] at hcs
      obtain ⟨rfl, rfl, rfl⟩ := hcs
      exact ⟨[], .inl ⟨rfl, rfl, rfl, rfl⟩⟩
    · simp [Value.cells] at hcs
      obtain ⟨rfl, rfl, rfl⟩ := hcs
      exact ⟨zs, .inr ⟨_, rfl, hl, hm, by simpa using hz, hcell, hwz⟩⟩
  clear hA0 hval0
  refine (walk a0 a1 a2 a3 a4 len4 cap4 z4 W w0 w1 w2 w3 w4).mono fun e W' ⟨he, bel⟩ => ?_
  subst he
  exact ⟨_, rfl, _, _, _, [], _, [], hW', trodAll_mk1 (shut_bool Try.underlying4 _), (trodAll_cons_mk (shut_string Try.underlying9 w0) (trodAll_cons_mk (shut_string Try.underlying9 w1) (trodAll_cons_mk (shut_int Try.underlying3 w2) (trodAll_cons_mk (shut_int Try.underlying3 w3) (trodAll_cons_mk (Below.trod laidOut (by kernel_rfl) (of_decide_eq_true (by kernel_rfl)) k4 bel lt4) trodAll_mk0))))), rfl, bel.frame _, fun h => by cases h⟩

theorem over : Rows.fnShowUngroupsBackRow.holds Try.pinned (OpenSpec.ofChange Rows.fnShowUngroupsBackSpec) :=
  OpenClaim.holds_of_wide 4 Try.f4 rfl rfl rfl rfl rfl rfl rfl ⟨rfl, rfl, rfl, rfl, rfl⟩ rfl rfl rfl rfl rfl (by kernel_rfl) Try.func4 (by kernel_rfl)
    (of_decide_eq_true (by kernel_rfl)) (by unfold Func.isWrapper; first | (rw [if_pos (by decide +kernel)]; kernel_rfl) | (rw [if_neg (by decide +kernel)]; exact ⟨rfl, rfl⟩))
    (fun os started H enc _ => lifted os started H enc)

/-- ████ THE STATEMENT ████ -/
theorem proved : Rows.FnShowUngroupsBackSaid := over
end Go.Proofs.Qxb6601858a.fnShowUngroupsBack

namespace Go.Proofs.Qxb6601858a
theorem FnShowUngroupsBack_proved : Rows.FnShowUngroupsBackSaid := fnShowUngroupsBack.proved
end Go.Proofs.Qxb6601858a
