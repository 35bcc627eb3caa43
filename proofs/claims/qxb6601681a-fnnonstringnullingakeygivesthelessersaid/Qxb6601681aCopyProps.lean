import Derived.Test.Qxb6601681aMapRead2
namespace Go.Proofs.Qxb6601681a
open Go.RowKit Go.Maps
set_option linter.unusedSimpArgs false
set_option linter.unusedVariables false

theorem Try.info50 : (Try.prog.info? 50).map (fun i => (i.zero, i.size, i.bytes)) = some (some (.pointer none), 1, 8) := by kernel_rfl

/-- 'make(map[..].., n)'. -/
theorem make_hint (w : World) (x : Int) : (Instr.makeMap 32 (some (.int .i64 x))).run Try.prog w = .ok (.map (some w.heap.size)) (w.alloc (.map #[] 0)) := by
  simp [Instr.makeMap, run_underlying Try.underlying32, Result.andThen, asInt, asIntOf]

/-- β, turned at s. -/
def turn (β : ByteArray → Bool) (s : ByteArray) (b : Bool) : ByteArray → Bool := fun x => if x.data.toList = s.data.toList then b else β x
theorem turn_same (β : ByteArray → Bool) (s : ByteArray) (b : Bool) : turn β s b s = b := by simp [turn]
theorem bytes_ne {x s : ByteArray} (h : x ≠ s) : x.data.toList ≠ s.data.toList := by
  intro e; apply h; cases x; cases s; simp at e; rw [e]
theorem turn_other (β : ByteArray → Bool) (b : Bool) {x s : ByteArray} (h : x ≠ s) : turn β s b x = β x := by
  unfold turn; rw [if_neg (bytes_ne h)]

theorem GoodMap.put {w : World} {D : DataW Value} {β : ByteArray → Bool} (h : GoodMap w D β) (hD : IsMap D) {v : Value} {ps : List (Option Addr)} (hP : Ptrs w v ps) (s : ByteArray) :
    GoodMap w (D.put (kL s) (.held v)) (turn β s (vbad v ps)) := by
  intro x
  by_cases e : x = s
  · subst e
    exact ⟨v, ps, atKey_put_same hD (kL_key x) _ _, hP, fun _ => (turn_same _ _ _).symm⟩
  · obtain ⟨v1, ps1, h1, h2, h3⟩ := h x
    refine ⟨v1, ps1, by rw [atKey_put_other (kL_ne e)]; exact h1, h2, fun hh => ?_⟩
    rw [has_put_other (kL_ne e)] at hh
    rw [turn_other _ _ e]
    exact h3 hh
theorem GoodMap.empty (w : World) (β : ByteArray → Bool) : GoodMap w (.map []) β := fun s => ⟨.slice none 0 0, [], rfl, Ptrs.nil w, fun h => by cases h⟩
theorem has_put_iff {D : DataW Value} (hD : IsMap D) (s x : ByteArray) (d : DataW Value) : Maps.has (D.put (kL s) d) (kL x) = true ↔ (x = s ∨ Maps.has D (kL x) = true) := by
  by_cases e : x = s
  · subst e
    simp [has_put_same hD (kL_key x)]
  · rw [has_put_other (kL_ne e)]
    simp [e]
theorem mem_take_succ (ss : List ByteArray) (k : Nat) (hk : k < ss.length) (x : ByteArray) : x ∈ ss.take (k + 1) ↔ (x = ss.getD k ByteArray.empty ∨ x ∈ ss.take k) := by
  rw [List.take_add_one, List.mem_append]
  simp [List.getElem?_eq_getElem hk, List.getD]
  constructor
  · rintro (h | h)
    · exact Or.inr h
    · exact Or.inl h
  · rintro (h | h)
    · exact Or.inr h
    · exact Or.inl h

/-- The copy's cells so far. -/
def PtrCells (w : World) (C L : Nat) (qs : List (Option Addr)) : Prop := qs.length = L ∧ ∀ i, i < L → w.cell? ⟨C, i, none⟩ = some (.pointer (qs.getD i none))
theorem PtrCells.set {w : World} {C L j : Nat} {qs : List (Option Addr)} (h : PtrCells w C L qs) (hj : j < L) (p : Option Addr) : PtrCells (w.setCell ⟨C, j, none⟩ (.pointer p)) C L (qs.set j p) := by
  refine ⟨by simp [h.1], fun i hi => ?_⟩
  by_cases e : i = j
  · subst e
    rw [World.cell?_setCell_same _ _ _ (h.2 i hi)]
    simp [h.1, hi]
  · rw [World.cell?_setCell_other _ _ _ _ (by first | (simp; done) | (simp; omega)), h.2 i hi]
    simp [List.getElem?_set, show ¬ j = i by omega]
theorem PtrCells.alloc {w : World} {C L : Nat} {qs : List (Option Addr)} (h : PtrCells w C L qs) (o : Obj) (hC : C < w.heap.size) : PtrCells (w.alloc o) C L qs :=
  ⟨h.1, fun i hi => (World.cell?_alloc_lt _ _ _ hC).trans (h.2 i hi)⟩
theorem PtrCells.start {w : World} {C L : Nat} (h : w.ownsRow C 50 1 (.slice (some ⟨C, 0, none⟩) L L) L (madeCells #[Value.pointer none] L).toList) : PtrCells w C L (List.replicate L none) := by
  refine ⟨by simp, fun i hi => ?_⟩
  rw [h.cellAt i (by omega), toList_madeCells_one]
  simp [hi]
theorem PtrCells.ptrs {w : World} {C L : Nat} {qs : List (Option Addr)} (h : PtrCells w C L qs) (hL : L ≤ maxLen) : Ptrs w (.slice (some ⟨C, 0, none⟩) L L) qs := by
  obtain ⟨rfl, h2⟩ := h
  exact ⟨_, C, 0, qs.length, rfl, fun h => (by cases h), fun _ => rfl, fun j hj => (by rw [Nat.zero_add]; exact h2 j hj), hL⟩

theorem grown_of_below {w w' : World} (h : Below w.heap.size w w') : w.grownBy w' none := ⟨h.os, h.tape, h.output, h.size, fun k hk _ => h.block k hk⟩
theorem Keeps.of_own {w w' : World} {b n : Nat} {D : DataW Value} (h : w.ownsMap Try.prog 9 raw b n D) (hg : w.grownBy w' (some b)) : Keeps w w' := by
  obtain ⟨es, clock, hb, _⟩ := h
  exact Keeps.of_map hb hg

def PropsRet (ss : List ByteArray) (w' : World) (e : Ending) : Prop := ∃ q n' Dq β, e = .returned (.map q) ∧ Pm w' q n' Dq ∧ GoodMap w' Dq β ∧ ∀ s, Maps.has Dq (kL s) = true ↔ s ∈ ss

set_option maxHeartbeats 4000000 in
theorem copyProps_any (p : Option Nat) (n : Nat) (D : DataW Value) (a : Option Addr) (b off cap : Nat) (ss : List ByteArray) (w : World) (hn : ss.length ≤ 65536) (hz : p = none → ss = [])
    (hp : Pm w p n D) (hg : GoodArg w D) (hk : KeysAt w a b off ss) (hl : ∀ i, i < ss.length → LenOk D (ss.getD i ByteArray.empty)) :
    Calls Try.prog 22 #[.map p, .slice a ss.length cap] w fun e w' => PropsRet ss w' e ∧ Below w.heap.size w w' := by
  obtain ⟨i0, hi, hz0, hz1, hz2⟩ := info_parts Try.info50
  have q42 : ∀ (w : World) (a : Option Addr) (n c n' c' : Nat), (binOp .eql 42 (.slice a n c) (.slice none n' c')).run Try.prog w = .ok (.bool a.isNone) w := fun w a n c n' c' => Lib.run_eql_slice_nil w _ _ a n c n' c' Try.underlying42
  have q32 : ∀ (w : World) (r : Option Nat), (binOp .eql 32 (.map r) (.map none)).run Try.prog w = .ok (.bool r.isNone) w := fun w r => run_eql_map_nil w _ _ _ r Try.underlying32
  have hmm := make_hint
  have HK := mhide hk
  have HP := mhide hp
  have HG := mhide hg
  have HLN := mhide hl
  clear hk hp hg hl
  rcases p with _ | pb
  · have := hz rfl
    subst this
    go_enter Try.func22, Try.ntmps22
    go_wp2
    go_ret
    exact ⟨⟨none, 0, .map [], fun _ => false, rfl, Or.inl ⟨rfl, rfl⟩, GoodMap.empty _ _, fun s => by simp [Maps.has]⟩, Below.refl _ _⟩
  · clear hz
    have hB0 : Below w.heap.size w (w.alloc (.map #[] 0)) := (Below.refl _ _).alloc (Nat.le_refl _) _
    have hO0 := World.ownsMap_made w Try.prog 9 raw
    go_enter Try.func22, Try.ntmps22
    go_wp2
    go_loopw [6] (fun i wr => ∃ (k : Nat) (Dq : DataW Value) (β : ByteArray → Bool), k ≤ ss.length ∧ i = .int .i64 k ∧ wr.ownsMap Try.prog 9 raw w.heap.size k Dq ∧ GoodMap wr Dq β ∧ (∀ s, Maps.has Dq (kL s) = true ↔ s ∈ ss.take k) ∧ Below w.heap.size w wr) (fun i _ => ss.length - (intOf i).toNat)
    case atStart => exact ⟨0, _, fun _ => false, Nat.zero_le _, rfl, hO0, GoodMap.empty _ _, fun s => by simp [Maps.has], hB0⟩
    case round =>
      clear hB0 hO0
      obtain ⟨k, Dq, β, hk, rfl, hown, hgm, hhas, hB⟩ := hrel
      have HO := mhide hown
      have HGM := mhide hgm
      have HH := mhide hhas
      have HB := mhide hB
      clear hown hgm hhas hB
      by_cases hlt : k < ss.length
      · have KW := Keeps.of_below HB.out
        have HK1 := mhide (HK.out.keep KW)
        obtain rfl := HK1.out.addr (by omega)
        have hcx := HK1.out.cells k hlt
        have hss := HK1.out.size k hlt
        have hln := HLN.out k hlt
        have HM := mhide (fun x => mem_take_succ ss k hlt x)
        obtain ⟨s, hs⟩ : ∃ s, ss.getD k ByteArray.empty = s := ⟨_, rfl⟩
        rw [hs] at hcx hss hln HM
        obtain ⟨v, ps, hat, hP, hS, hl⟩ := look_arg (HP.out.kept HB.out) (HG.out.keep KW) s hss
        obtain ⟨a2, b2, off2, cap2, rfl, ha0, ha1, hcell, hL⟩ := hP
        have hlen := hln _ _ _ hat
        have HA1 := mhide ha1
        have HC := mhide hcell
        have HS := mhide hS
        have HBm : Hid (w.heap.size < wr.heap.size) := HO.out.lt
        clear hs HK HP HG HLN HK1 KW hln hat ha1 hcell hS hL
        rcases a2 with _ | ax
        · have HKEY := mhide (keyAt s hss)
          clear ha0
          go_wp2_with (at_mapUpdate; refine wpList_mapUpdate_own _ rfl _ _ _ 32 rfl 9 42 klaw Try.underlying32 raw w.heap.size k Dq rfl HO.out (by unfold maxLen; omega) _ _ _ rfl rfl HKEY.out _ [] rfl ?_)
          intro w1 hown1 hgrow1
          have HO1 := mhide hown1
          have HG1 := mhide ((HGM.out.keep (Keeps.of_own HO.out hgrow1)).put HO.out.isMap (Ptrs.nil w1) s)
          have HH1 : Hid (∀ x, Maps.has (Dq.put (kL s) (.held (.slice none 0 0))) (kL x) = true ↔ x ∈ ss.take (k + 1)) := fun x => by
            rw [has_put_iff HO.out.isMap, HM.out x, HH.out x]
          have HB1 := mhide (HB.out.grown hgrow1 HB.out.size (fun j hj => by cases hj; exact Nat.le_refl _))
          clear hown1 hgrow1
          go_wp2
          go_roundw
          case rel => exact ⟨k + 1, _, _, by omega, by go_num, HO1.out, HG1.out, HH1.out, HB1.out⟩
          case measure => simp [intOf]; omega
        · have HKEY := mhide (keyAt s hss)
          clear ha0
          go_wp2_with (at_make; refine wpList_make_full _ rfl _ _ 42 rfl wr.heap.size 50 i0 (.pointer none) 1 Try.underlying42 hi hz0 hz1 _ _ _ _ ps.length rfl rfl rfl rfl (by rw [hz2]; omega) (by unfold maxLen; omega) (Nat.le_refl _) ?_)
          intro w1 hown1 hgrow1
          obtain ⟨Wo, hWo⟩ : ∃ Wo, Wo = wr := ⟨_, rfl⟩
          subst hWo
          have hO : OwnedE 50 w1 Wo.heap.size ps.length := ⟨_, hown1⟩
          have hPC := PtrCells.start hown1
          have hBw : Below Wo.heap.size Wo w1 := (Below.refl _ _).grown hgrow1 (Nat.le_refl _) (fun k h => by cases h)
          clear hown1 hgrow1
          go_wp2
          go_loopw [9] (fun i w2 => ∃ (j : Nat) (qs : List (Option Addr)), j ≤ ps.length ∧ i = .int .i64 j ∧ OwnedE 50 w2 Wo.heap.size ps.length ∧ PtrCells w2 Wo.heap.size ps.length qs ∧ Below Wo.heap.size Wo w2) (fun i _ => ps.length - (intOf i).toNat)
          case atStart => exact ⟨0, _, Nat.zero_le _, rfl, hO, hPC, hBw⟩
          case round =>
            clear hO hPC hBw
            obtain ⟨j, qs, hj, rfl, hO, hPC, hBw⟩ := hrel
            by_cases hjl : j < ps.length
            · have hadr := HA1.out (by omega)
              cases hadr
              have hcy := cell_later hBw (HC.out j hjl)
              obtain ⟨ao, hao⟩ : ∃ ao, ps.getD j none = ao := ⟨_, rfl⟩
              rw [hao] at hcy
              rcases ao with _ | ad
              · have HO2 := mhide hO
                have HPC2 := mhide hPC
                have HBW2 := mhide hBw
                clear hao HS HC HA1 hO hPC hBw
                go_wp2
                go_roundw
                case rel => exact ⟨j + 1, qs, by omega, by go_num, HO2.out, HPC2.out, HBW2.out⟩
                case measure => simp [intOf]; omega
              · obtain ⟨t, ht, hts⟩ := HS.out j ad hjl hao
                have hct := cell_later hBw ht
                have hfr := hO.frozen j
                obtain ⟨u, hu⟩ := hO.at j hjl
                have hCl := hO.lt
                have HO2 := mhide hO
                have HPC2 := mhide hPC
                have HBW2 := mhide hBw
                clear hao HS HC HA1 hO hPC hBw ht
                have hsz : Wo.heap.size ≤ wr.heap.size := HBW2.out.size
                go_wp2
                go_roundw
                case rel => exact ⟨j + 1, _, by omega, by go_num, (HO2.out.set j _).alloc _, (HPC2.out.set hjl _).alloc _ (by simpa [World.setCell] using hCl), (HBW2.out.setCell (p := ⟨Wo.heap.size, j, none⟩) (Nat.le_refl _) _).alloc (by simpa [World.setCell] using hsz) _⟩
                case measure => simp [intOf]; omega
            · have hcx2 := cell_later hBw hcx
              have HOW := mhide (HO.out.kept (grown_of_below hBw) (by simp))
              have HPT := mhide (hPC.ptrs (by unfold maxLen; omega))
              have HBW2 := mhide hBw
              clear HS HC HA1 hO hPC hBw
              go_wp2_with (at_mapUpdate; refine wpList_mapUpdate_own _ rfl _ _ _ 32 rfl 9 42 klaw Try.underlying32 raw w.heap.size k Dq rfl HOW.out (by unfold maxLen; omega) _ _ _ rfl rfl HKEY.out _ [] rfl ?_)
              intro w3 hown3 hgrow3
              have HO3 := mhide hown3
              have KP := Keeps.of_own HOW.out hgrow3
              have HG3 := mhide (((HGM.out.keep (Keeps.of_below HBW2.out)).keep KP).put HO.out.isMap (HPT.out.keep KP) s)
              have HH3 : Hid (∀ x, Maps.has (Dq.put (kL s) (.held (.slice (some ⟨Wo.heap.size, 0, none⟩) ps.length ps.length))) (kL x) = true ↔ x ∈ ss.take (k + 1)) := fun x => by
                rw [has_put_iff HO.out.isMap, HM.out x, HH.out x]
              have HB3 := mhide ((HB.out.trans (HBW2.out.mono HB.out.size)).grown hgrow3 (Nat.le_trans HB.out.size HBW2.out.size) (fun j hj => by cases hj; exact Nat.le_refl _))
              clear hown3 hgrow3 KP
              go_wp2
              go_roundw
              case rel => exact ⟨k + 1, _, _, by omega, by go_num, HO3.out, HG3.out, HH3.out, HB3.out⟩
              case measure => simp [intOf]; omega
      · have hke : ss.take k = ss := List.take_of_length_le (by omega)
        rw [hke] at HH
        clear hke HK HP HG HLN
        go_wp2
        go_ret
        exact ⟨⟨some w.heap.size, k, Dq, β, rfl, Or.inr ⟨_, rfl, HO.out⟩, HGM.out, HH.out⟩, HB.out⟩
end Go.Proofs.Qxb6601681a
