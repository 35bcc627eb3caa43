import Derived.Test.Qxb6601681aCopyProps
import Derived.Test.Qxb6601681aNonString
import Derived.BigRegion
namespace Go.Proofs.Qxb6601681a
open Go.RowKit Go.Maps
set_option linter.unusedSimpArgs false
set_option linter.unusedVariables false

/-- A store into the call's own map, in whatever world that differs by draws. -/
theorem store_draws {w : World} {b n : Nat} {D : DataW Value} (h : w.ownsMap Try.prog 9 raw b n D) (hn : n < maxLen) (s : ByteArray) (hs : s.size ≤ maxLen) (v : Value) :
    ∃ f : Nat → World, ∀ q, (Instr.mapUpdate 32 (.map (some b)) (.string s) v).run Try.prog (w.drewN q) = .ok () (f q) ∧ (f q).ownsMap Try.prog 9 raw b (n + 1) (D.put (kL s) (.held v)) ∧ w.grownBy (f q) (some b) := by
  have H : ∀ q, ∃ w', (Instr.mapUpdate 32 (.map (some b)) (.string s) v).run Try.prog (w.drewN q) = .ok () w' ∧ w'.ownsMap Try.prog 9 raw b (n + 1) (D.put (kL s) (.held v)) ∧ w.grownBy w' (some b) := fun q => by
    have hq : (w.drewN q).ownsMap Try.prog 9 raw b n D := h
    obtain ⟨w', h1, h2, h3⟩ := hq.update klaw Try.underlying32 hn (keyAt s hs) (d := .held v) (ps := []) rfl
    exact ⟨w', h1, h2, ⟨h3.os, h3.tape, h3.output, h3.size, h3.block⟩⟩
  exact ⟨fun q => Classical.choose (H q), fun q => Classical.choose_spec (H q)⟩

/-- The second map holds what the first holds. -/
theorem good_again {w : World} {D D2 : DataW Value} {β : ByteArray → Bool} {ss : List ByteArray} (h : GoodMap w D β) (h2 : ∀ s, Maps.has D2 (kL s) = true ↔ s ∈ ss) (h1 : ∀ s, Maps.has D (kL s) = true ↔ s ∈ ss) (hat : ∀ s, s ∈ ss → D2.atKey (kL s) zd = D.atKey (kL s) zd) :
    GoodMap w D2 β := by
  intro s
  by_cases e : s ∈ ss
  · obtain ⟨v, ps, h3, h4, h5⟩ := h s
    exact ⟨v, ps, (hat s e).trans h3, h4, fun _ => h5 ((h1 s).2 e)⟩
  · have hf : Maps.has D2 (kL s) = false := by
      cases hc : Maps.has D2 (kL s)
      · rfl
      · exact absurd ((h2 s).1 hc) e
    exact ⟨.slice none 0 0, [], atKey_of_not_has hf zd, Ptrs.nil w, fun h => by rw [hf] at h; cases h⟩

theorem final_law {D D2 : DataW Value} {β : ByteArray → Bool} {ss : List ByteArray} {k key1 key2 : ByteArray} {f1 f2 : Bool} (hD : IsMap D2) (h2 : ∀ s, Maps.has D2 (kL s) = true ↔ s ∈ ss) (h1 : ∀ s, Maps.has D (kL s) = true ↔ s ∈ ss)
    (hL1 : Least D β key1 f1) (hL2 : Least (D2.put (kL k) (.held (.slice none 0 0))) (turn β k (vbad (.slice none 0 0) [])) key2 f2) :
    f2 = true ∧ ((f1 && lt key1 k) = true → key2 = key1) ∧ ((f1 && lt key1 k) = false → key2 = k) := by
  refine lesser (fun s => Maps.has D (kL s) = true ∧ β s = true) (fun s => Maps.has (D2.put (kL k) (.held (.slice none 0 0))) (kL s) = true ∧ turn β k (vbad (.slice none 0 0) []) s = true) k key1 key2 f1 f2 hL1.1 (fun s h => hL1.2 s h.1 h.2) hL2.1 (fun s h => hL2.2 s h.1 h.2) ?_
  intro s
  by_cases e : s = k
  · subst e
    constructor
    · intro _; exact Or.inl rfl
    · intro _; exact ⟨has_put_same hD (kL_key s) _, by rw [turn_same]; rfl⟩
  · show (Maps.has (D2.put (kL k) (.held (.slice none 0 0))) (kL s) = true ∧ turn β k (vbad (.slice none 0 0) []) s = true) ↔ (s = k ∨ (Maps.has D (kL s) = true ∧ β s = true))
    rw [has_put_other (kL_ne e), turn_other _ _ e, h1 s, h2 s]
    constructor
    · intro h; exact Or.inr h
    · intro h; exact h.resolve_left e

set_option maxHeartbeats 4000000 in
theorem top_in (p : Option Nat) (n : Nat) (D : DataW Value) (a : Option Addr) (b off cap : Nat) (ss : List ByteArray) (k : ByteArray) (w : World) (hn : ss.length ≤ 65536) (hsz : Maps.size D ≤ 65536) (hks : k.size ≤ 1048576) (hnil : a = none → ss = [])
    (hp : Pm w p n D) (hg : GoodArg w D) (hk : KeysAt w a b off ss) :
    Calls Try.prog 8 #[.map p, .slice a ss.length cap, .string k] w fun e w' => e = .returned (.bool true) ∧ Below w.heap.size w w' := by
  have HK := mhide hk
  have HP := mhide hp
  have HG := mhide hg
  have HN := mhide hnil
  have d1 : decide ((65536 : Int) < (Maps.size D : Int)) = false := by simp; omega
  have d2 : decide ((65536 : Int) < (ss.length : Int)) = false := by simp; omega
  have d3 : decide ((1048576 : Int) < (k.size : Int)) = false := by simp; omega
  have hmm := make_hint
  clear hk hp hg hnil
  go_enter Try.func8, Try.ntmps8
  go_wp2_with (at_len; refine wpList_len_pm rfl _ rfl p n D rfl HP.out ?_)
  refine (keyBytes_any a b off cap ss _ hn HK.out).mono ?_
  rintro e w0 ⟨⟨t1, rfl, ht0, ht1⟩, hw0⟩
  have hw0 := hw0.symm
  subst hw0
  by_cases c1 : (1048576 : Int) < t1 + (k.size : Int)
  · go_wp2
    go_ret
    exact ⟨rfl, Below.refl _ _⟩
  · go_wp2_with fail
    refine (keysOf_any p n D a b off cap ss _ hn hsz HP.out HK.out).mono ?_
    rintro e w1 ⟨⟨bb, rfl, hbb⟩, hB1⟩
    have HB1 := mhide hB1
    have HBB := mhide hbb
    clear hB1 hbb
    rcases bb with _ | _
    · go_wp2
      go_ret
      exact ⟨rfl, HB1.out⟩
    · have HSZ : Hid (p = none → ss = []) := by
        intro hpn
        have h1 := HBB.out rfl
        rcases HP.out with ⟨_, hD⟩ | ⟨b', hb', _⟩
        · rw [hD] at h1
          exact List.eq_nil_of_length_eq_zero h1.symm
        · rw [hpn] at hb'; cases hb'
      have HP1 := mhide (HP.out.kept HB1.out)
      have HG1 := mhide (HG.out.keep (Keeps.of_below HB1.out))
      have HK1 := mhide (HK.out.keep (Keeps.of_below HB1.out))
      clear HBB HP HG HK
      go_wp2_with fail
      refine (valueBytes_any p n D a b off cap ss _ hn HP1.out HG1.out HK1.out).mono ?_
      rintro e w2 ⟨⟨t2, rfl, hu0, hu1, hlo⟩, hw2⟩
      have hw2 := hw2.symm
      subst hw2
      have HLO := mhide hlo
      clear hlo
      by_cases c2 : (1048576 : Int) < t1 + (k.size : Int) + t2
      · go_wp2
        go_ret
        exact ⟨rfl, HB1.out⟩
      · have HL := mhide (HLO.out (by omega))
        clear HLO
        go_wp2_with fail
        refine (copyProps_any p n D a b off cap ss _ hn HSZ.out HP1.out HG1.out HK1.out HL.out).mono ?_
        rintro e w3 ⟨⟨q, nq, Dq, β, rfl, hPq, hGq, hHq⟩, hB3⟩
        have HB3 := mhide hB3
        have HPQ := mhide hPq
        have HGQ := mhide hGq
        have HHQ := mhide hHq
        have HK3 := mhide (HK1.out.keep (Keeps.of_below hB3))
        clear hB3 hPq hGq hHq HK1 HP1 HG1 HL HSZ
        go_wp2_with fail
        refine (copyKeys_any a b off cap ss _ hn HN.out HK3.out).mono ?_
        rintro e w4 ⟨⟨a4, g4, c4, rfl, hK4⟩, hB4⟩
        have HB4 := mhide hB4
        have HK4 := mhide hK4
        have HPQ4 := mhide (HPQ.out.kept hB4)
        have HGQ4 := mhide (HGQ.out.keep (Keeps.of_below hB4))
        clear hK4 hB4 HK3 HPQ HGQ HN
        go_wp2_with fail
        refine (zzNonString_any q nq Dq β _ HPQ4.out HGQ4.out).mono ?_
        rintro e w5 ⟨⟨key1, found1, rfl, hL1⟩, hB5⟩
        have HB5 := mhide hB5
        have HL1 := mhide hL1
        have HK5 := mhide (HK4.out.keep (Keeps.of_below hB5))
        have HPQ5 := mhide (HPQ4.out.kept hB5)
        have HGQ5 := mhide (HGQ4.out.keep (Keeps.of_below hB5))
        have HBE : Hid (Below w.heap.size w w5) := ((HB1.out.trans (HB3.out.mono HB1.out.size)).trans (HB4.out.mono (Nat.le_trans HB1.out.size HB3.out.size))).trans (HB5.out.mono (Nat.le_trans (Nat.le_trans HB1.out.size HB3.out.size) HB4.out.size))
        clear hL1 hB5 HK4 HPQ4 HGQ4 HB1 HB3 HB4 HB5
        have hO0 := World.ownsMap_made w5 Try.prog 9 raw
        have hB0 : Below w5.heap.size w5 (w5.alloc (.map #[] 0)) := (Below.refl _ _).alloc (Nat.le_refl _) _
        go_wp2
        go_loopw [11] (fun i wr => ∃ (m : Nat) (D2 : DataW Value), m ≤ ss.length ∧ i = .int .i64 m ∧ wr.ownsMap Try.prog 9 raw w5.heap.size m D2 ∧ (∀ s, Maps.has D2 (kL s) = true ↔ s ∈ ss.take m) ∧ (∀ s, s ∈ ss.take m → D2.atKey (kL s) zd = Dq.atKey (kL s) zd) ∧ Below w5.heap.size w5 wr) (fun i _ => ss.length - (intOf i).toNat)
        case atStart => exact ⟨0, _, Nat.zero_le _, rfl, hO0, fun s => by simp [Maps.has], fun s h => by simp at h, hB0⟩
        case round =>
          clear hO0 hB0
          obtain ⟨m, D2, hm, rfl, hown, hhas, hat, hB⟩ := hrel
          have HO := mhide hown
          have HH := mhide hhas
          have HAT := mhide hat
          have HB := mhide hB
          clear hown hhas hat hB
          by_cases hlt : m < ss.length
          · have HK6 := mhide (HK5.out.keep (Keeps.of_below HB.out))
            obtain rfl := HK6.out.addr (by omega)
            have hcx := HK6.out.cells m hlt
            have hss := HK6.out.size m hlt
            have HM := mhide (fun x => mem_take_succ ss m hlt x)
            obtain ⟨s, hs⟩ : ∃ s, ss.getD m ByteArray.empty = s := ⟨_, rfl⟩
            rw [hs] at hcx hss HM
            obtain ⟨v, hv, hl, _⟩ := (HPQ5.out.kept HB.out).look s hss
            obtain ⟨f, hf⟩ := store_draws HO.out (by unfold maxLen; omega) s hss v
            have hst : (Instr.mapUpdate 32 (.map (some w5.heap.size)) (.string s) v).run Try.prog wr.drew = .ok () (f 1) := (hf 1).1
            have HF := mhide hf
            have hl1 : (Instr.lookup 32 (.map q) (.string s) false).run Try.prog wr.drew = .ok v wr.drew := hl 1
            have HV := mhide hv
            rw [Nat.zero_add] at hcx
            clear hs hf hv hl HK5 HPQ5 HK6
            go_wp2_with fail
            go_region
            have HO6 := mhide (HF.out 1).2.1
            have HB6 := mhide (HB.out.grown (HF.out 1).2.2 HB.out.size (fun j hj => by cases hj; exact Nat.le_refl _))
            have HH6 : Hid (∀ x, Maps.has (D2.put (kL s) (.held v)) (kL x) = true ↔ x ∈ ss.take (m + 1)) := fun x => by
              rw [has_put_iff HO.out.isMap, HM.out x, HH.out x]
            have HAT6 : Hid (∀ x, x ∈ ss.take (m + 1) → (D2.put (kL s) (.held v)).atKey (kL x) zd = Dq.atKey (kL x) zd) := fun x hx => by
              by_cases e : x = s
              · subst e
                rw [atKey_put_same HO.out.isMap (kL_key x)]
                exact HV.out.symm
              · rw [atKey_put_other (kL_ne e)]
                exact HAT.out x (((HM.out x).1 hx).resolve_left e)
            clear hst hl1 HF
            generalize f 1 = w6 at *
            go_wp2
            go_roundw
            case rel => exact ⟨m + 1, _, by omega, by go_num, HO6.out, HH6.out, HAT6.out, HB6.out⟩
            case measure => simp [intOf]; omega
          · have hme : ss.take m = ss := List.take_of_length_le (by omega)
            rw [hme] at HH HAT
            have HKEY := mhide (keyAt k (by unfold maxLen; omega))
            have HGM : Hid (GoodMap wr D2 β) := good_again (HGQ5.out.keep (Keeps.of_below HB.out)) HH.out HHQ.out HAT.out
            clear hme HK5 HPQ5 HGQ5
            go_wp2_with (at_mapUpdate; refine wpList_mapUpdate_own _ rfl _ _ _ 32 rfl 9 42 klaw Try.underlying32 raw w5.heap.size m D2 rfl HO.out (by unfold maxLen; omega) _ _ _ rfl rfl HKEY.out _ [] rfl ?_)
            intro w6 hown6 hgrow6
            have HO6 := mhide hown6
            have HG6 := mhide ((HGM.out.keep (Keeps.of_own HO.out hgrow6)).put HO.out.isMap (Ptrs.nil w6) k)
            have HB6 := mhide (HB.out.grown hgrow6 HB.out.size (fun j hj => by cases hj; exact Nat.le_refl _))
            clear hown6 hgrow6
            go_wp2_with fail
            refine (zzNonString_any (some w5.heap.size) (m + 1) _ _ _ (Or.inr ⟨_, rfl, HO6.out⟩) HG6.out).mono ?_
            rintro e w7 ⟨⟨key2, found2, rfl, hL2⟩, hB7⟩
            have HFIN := mhide (final_law HO.out.isMap HH.out HHQ.out HL1.out hL2)
            have HBF : Hid (Below w.heap.size w w7) := (HBE.out.trans (HB6.out.mono HBE.out.size)).trans (hB7.mono (Nat.le_trans HBE.out.size HB6.out.size))
            clear hL2 hB7
            obtain ⟨f2, k2a, k2b⟩ := HFIN.out
            subst f2
            rcases hc : (found1 && lt key1 k) with _ | _
            · obtain rfl := k2b hc
              rcases found1 with _ | _
              · clear hc HFIN k2a k2b
                go_wp2
                go_ret
                exact ⟨by simp, HBF.out⟩
              · have hc2 : Op.bytesLess key1.toList key2.toList = false := by simpa [lt] using hc
                clear hc HFIN k2a k2b
                go_wp2
                go_ret
                exact ⟨by simp, HBF.out⟩
            · obtain rfl := k2a hc
              rcases found1 with _ | _
              · simp at hc
              · have hc2 : Op.bytesLess key2.toList k.toList = true := by simpa [lt] using hc
                clear hc HFIN k2a k2b
                go_wp2
                go_ret
                exact ⟨by simp, HBF.out⟩
end Go.Proofs.Qxb6601681a
