import Derived.Test.Qxb6601681aMapBase
namespace Go.Proofs.Qxb6601681a
open Go.RowKit Go.Maps
set_option linter.unusedSimpArgs false
set_option linter.unusedVariables false

set_option maxHeartbeats 1000000 in
theorem nonString_nil (w : World) (β : ByteArray → Bool) :
    Calls Try.prog 29 #[.map none] w fun e w' => NsRet (.map []) β e ∧ Below w.heap.size w w' := by
  have hr := fun w => run_range_nilMap (P := Try.prog) w 51 9 42 Try.underlying51
  have hn := fun w ty a b s => run_next_nilMap (P := Try.prog) w ty a b s
  go_enter Try.func29, Try.ntmps29
  go_wp2
  go_loop [2, 3] (fun k f => k = .string ⟨#[]⟩ ∧ f = .bool false) (fun _ _ => 0)
  case atStart => exact ⟨rfl, rfl⟩
  case round =>
    obtain ⟨rfl, rfl⟩ := hrel
    go_wp2
    go_ret2
    exact ⟨⟨_, _, rfl, ⟨fun h => (by cases h), fun s h => (by cases h)⟩⟩, (Below.refl _ _).alloc (Nat.le_refl _) _⟩

set_option maxHeartbeats 1000000 in
theorem nonString_map (b n : Nat) (D : DataW Value) (β : ByteArray → Bool) (w : World) (hown : w.ownsMap Try.prog 9 raw b n D) (hg : GoodMap w D β) :
    Calls Try.prog 29 #[.map (some b)] w fun e w' => NsRet D β e ∧ Below w.heap.size w w' := by
  have q42 : ∀ (w : World) (a : Option Addr) (n c n' c' : Nat), (binOp .eql 42 (.slice a n c) (.slice none n' c')).run Try.prog w = .ok (.bool a.isNone) w := fun w a n c n' c' => Lib.run_eql_slice_nil w _ _ a n c n' c' Try.underlying42
  have HG := mhide hg
  clear hg
  go_enter Try.func29, Try.ntmps29
  go_wp2_with (at_range; refine wpList_range_own _ rfl _ 51 rfl 9 42 klaw Try.underlying51 raw b n D rfl hown ?_; intro w0 hrg0 hg0 hs0)
  go_frame
  have hB0 : Below w.heap.size w w0 := (Below.refl _ _).grown hg0 (Nat.le_refl _) (fun k h => by cases h)
  clear hown hg0 hs0
  go_loopw [2, 3] (fun k f wr => ∃ (key : ByteArray) (found : Bool) (left : Lit → Bool) (cnt : Nat), k = .string key ∧ f = .bool found ∧ wr.ranges Try.prog 9 raw b w.heap.size n D left cnt ∧ LeastIn D β left key found ∧ (∀ kl, left kl = true → Maps.has D kl = true) ∧ Below w.heap.size w wr) (fun _ _ wr => wr.rangeLeft b w.heap.size)
  case atStart => exact ⟨_, _, _, _, rfl, rfl, hrg0, LeastIn.start _ _ _, fun _ h => h, hB0⟩
  case round =>
    clear hrg0 hB0
    obtain ⟨key, found, left, cnt, rfl, rfl, hrg, hL, hlh, hB⟩ := hrel
    have HL := mhide hL
    have HB := mhide hB
    have HLH := mhide hlh
    clear hL hB hlh
    go_wp2_with (at_next; refine wpList_next_ranges _ rfl _ rfl 9 klaw raw Value.string (fun v : Value => v) (fun key kl hk => by obtain ⟨s, hs, _⟩ := key_inv hk; exact ⟨s, hs⟩) (fun v y hv => ⟨v, rfl⟩) b w.heap.size n D left cnt rfl hrg ?_ ?_)
    · intro _ hl0
      have HZ := mhide hl0
      clear hl0 hrg
      go_wp2
      go_ret2
      exact ⟨⟨_, _, rfl, HL.out.finish HZ.out⟩, HB.out⟩
    · intro x c kl yd yp w2 cnt2 hkey hlk hv hat hrg2 hlt hg2 hs2 hen
      obtain ⟨x', ex, rfl, hxs⟩ := key_inv hkey
      cases ex
      obtain ⟨v, ps, hv1, hP, hbad⟩ := HG.out x
      have ev : c = v := by
        have h1 := hat zd
        rw [hv1] at h1
        simp [raw] at hv
        rw [← hv.1] at h1
        cases h1; rfl
      subst ev
      have hB2 : Below w.heap.size w w2 := HB.out.grown hg2 HB.out.size (fun k h => by cases h; exact Nat.le_refl _)
      have hP2 := hP.keep (Keeps.of_below hB2)
      have hhas := HLH.out _ hlk
      have hvb := hbad hhas
      obtain ⟨a, b0, off, cap, rfl, ha0, ha1, hcell, hL31⟩ := hP2
      unfold maxLen at hL31
      have HVB : Hid (vbad (.slice a ps.length cap) ps = β x) := hvb
      have HH := mhide hhas
      have HB2 := mhide hB2
      have HR2 := mhide hrg2
      have HLT : Hid (w2.rangeLeft b w.heap.size < wr.rangeLeft b w.heap.size) := by rw [Hid, hrg2.left_eq, hrg.left_eq]; exact hlt
      have HA1 := mhide ha1
      have HC := mhide hcell
      clear hvb hhas hB2 hrg2 hrg hlt hg2 hs2 hv hat hv1 hP hbad hkey hlk ha0 ha1 hcell HB
      go_wp2
      go_loop [6, 20] (fun bd i => ∃ j : Nat, j ≤ ps.length ∧ i = .int .i64 j ∧ bd = .bool (a.isNone || (ps.take j).any Option.isNone)) (fun _ i => ps.length - (intOf i).toNat)
      case atStart => exact ⟨0, Nat.zero_le _, rfl, by simp⟩
      case round =>
        obtain ⟨j, hj, rfl, rfl⟩ := hrel
        by_cases hjl : j < ps.length
        · obtain rfl := HA1.out (by omega)
          have hcx := HC.out j hjl
          obtain ⟨ao, hao⟩ : ∃ ao, ps.getD j none = ao := ⟨_, rfl⟩
          rw [hao] at hcx
          have HT : Hid ((ps.take (j + 1)).any Option.isNone = ((ps.take j).any Option.isNone || ao.isNone)) := by
            rw [Hid, List.take_add_one, List.any_append, ← hao]
            simp [List.getElem?_eq_getElem hjl, List.getD]
          obtain ⟨B, hB⟩ : ∃ B, (ps.take j).any Option.isNone = B := ⟨_, rfl⟩
          rw [hB] at HT
          simp only [Option.isNone_some, Bool.false_or, hB]
          clear hB hao HC HA1
          rcases B with _ | _
          · rcases ao with _ | ad
            · go_wp2
              go_round
              case rel => exact ⟨j + 1, by omega, by go_num, by rw [HT.out]; rfl⟩
              case measure => simp [intOf]; omega
            · go_wp2
              go_round
              case rel => exact ⟨j + 1, by omega, by go_num, by rw [HT.out]; rfl⟩
              case measure => simp [intOf]; omega
          · go_wp2
            go_round
            case rel => exact ⟨j + 1, by omega, by go_num, by rw [HT.out]; rfl⟩
            case measure => simp [intOf]; omega
        · have hje : ps.take j = ps := List.take_of_length_le (by omega)
          rw [hje]
          have HV : Hid ((a.isNone || ps.any Option.isNone) = β x) := by
            rw [← HVB.out]; unfold vbad; cases a <;> rfl
          clear hje HC HA1 HVB
          generalize (a.isNone || ps.any Option.isNone) = B at HV ⊢
          rcases B with _ | _
          · have HL2 := mhide (HL.out.stay (x := x) (fun h => by rw [← HV.out] at h; cases h))
            go_wp2
            go_roundw
            case rel => exact ⟨key, found, _, _, rfl, rfl, HR2.out, HL2.out, fun kl h => HLH.out kl (Bool.and_eq_true_iff.1 h).1, HB2.out⟩
            case measure => exact HLT.out
          · rcases found with _ | _
            · have HL2 := mhide (HL.out.take HH.out HV.out.symm (fun h => by cases h))
              go_wp2
              go_roundw
              case rel => exact ⟨x, true, _, _, rfl, rfl, HR2.out, HL2.out, fun kl h => HLH.out kl (Bool.and_eq_true_iff.1 h).1, HB2.out⟩
              case measure => exact HLT.out
            · rcases hlt : lt x key with _ | _
              · have HL2 := mhide (HL.out.stay (x := x) (fun _ => ⟨rfl, hlt⟩))
                have hlt2 : Op.bytesLess x.toList key.toList = false := hlt
                clear hlt
                go_wp2
                go_roundw
                case rel => exact ⟨key, true, _, _, rfl, rfl, HR2.out, HL2.out, fun kl h => HLH.out kl (Bool.and_eq_true_iff.1 h).1, HB2.out⟩
                case measure => exact HLT.out
              · have HL2 := mhide (HL.out.take HH.out HV.out.symm (fun _ => hlt))
                have hlt2 : Op.bytesLess x.toList key.toList = true := hlt
                clear hlt
                go_wp2
                go_roundw
                case rel => exact ⟨x, true, _, _, rfl, rfl, HR2.out, HL2.out, fun kl h => HLH.out kl (Bool.and_eq_true_iff.1 h).1, HB2.out⟩
                case measure => exact HLT.out

set_option maxHeartbeats 400000 in
theorem zzNonString_any (p : Option Nat) (n : Nat) (D : DataW Value) (β : ByteArray → Bool) (w : World) (hp : Pm w p n D) (hg : GoodMap w D β) :
    Calls Try.prog 24 #[.map p] w fun e w' => NsRet D β e ∧ Below w.heap.size w w' := by
  have H : Calls Try.prog 29 #[.map p] w fun e w' => NsRet D β e ∧ Below w.heap.size w w' := by
    rcases hp with ⟨rfl, rfl⟩ | ⟨b, rfl, hown⟩
    · exact nonString_nil w β
    · exact nonString_map b n D β w hown hg
  clear hp hg
  go_enter Try.func24, Try.ntmps24
  go_wp2_with fail
  refine H.mono ?_
  rintro e w1 ⟨⟨key, found, rfl, hL⟩, hB⟩
  have HL := mhide hL
  clear hL
  go_wp2
  go_ret2
  exact ⟨⟨_, _, rfl, HL.out⟩, hB⟩
end Go.Proofs.Qxb6601681a
