import Derived.Test.Qxb6601858aParts
import Derived.Laws.BytesArg
namespace Go.Proofs.Qxb6601858a
open Go.RowKit
set_option linter.unusedSimpArgs false
set_option linter.unusedVariables false

theorem own_bytes {w : World} {B : Nat} {v : Value} {N m : Nat} {L C : List UInt8} (h : w.ownsRow B 5 1 v (N + m) (Lib.byteCells L ++ Lib.byteCells C)) (hN : N = L.length) (hm : m = C.length) :
    w.ownsRow B 5 1 v (L ++ C).length (Lib.byteCells (L ++ C)) := by
  rw [Lib.byteCells_append, List.length_append, ← hN, ← hm]; exact h

theorem bytes_one (l : List UInt8) : ∀ v ∈ Lib.byteCells l, v.oneCell' = true := by
  intro v hv
  simp only [Lib.byteCells, List.mem_map] at hv
  obtain ⟨c, _, rfl⟩ := hv
  rfl

theorem src_cells {w : World} {g s m n : Nat} {us : List UInt8} (hb : Bytes w g 0 us n) (hm : s + m ≤ n) :
    ∀ j u, (Lib.byteCells ((us.drop s).take m))[j]? = some u → w.cell? ((⟨g, s, none⟩ : Addr).add j) = some u := by
  intro j u hj
  have hjm : j < m := by
    have := (List.getElem?_eq_some_iff.1 hj).1
    rw [Lib.byteCells_length, List.length_take] at this
    omega
  rw [Addr.add_lit]
  have hc := hb (s + j) (by omega)
  rw [Nat.zero_add] at hc
  rw [hc]
  rw [← hj]
  have hlen := (List.getElem?_eq_some_iff.1 hj).1
  rw [Lib.byteCells_length, List.length_take, List.length_drop] at hlen
  simp [Lib.byteCells, hjm, show s + j < us.length by omega]

theorem strOf_bytes (O : List UInt8) : strOfNums (O.map fun c => (c.toNat : Int)) = ⟨O.toArray⟩ := by
  unfold strOfNums
  congr 2
  rw [List.map_map]
  conv => rhs; rw [← List.map_id O]
  apply List.map_congr_left
  intro c _
  simp

theorem conv_own {w : World} {B : Nat} {v : Value} {O : List UInt8} (h : w.ownsRow B 5 1 v O.length (Lib.byteCells O)) : (convert 22 9 v).run Try.prog w = .ok (.string ⟨O.toArray⟩) w := by
  rcases h.2 with ⟨rfl, h0⟩ | ⟨g, cap, cur, rfl, _⟩
  · have : O = [] := List.eq_nil_of_length_eq_zero h0
    subst this
    exact run_convert_bytes_nil w 22 5 Try.underlying22 Try.underlying5 0 0 9 Try.underlying9
  · rw [run_convert_bytes_arg w 22 5 Try.underlying22 Try.underlying5 g 0 O.length cap (O.map fun c => (c.toNat : Int)) (by simp) (fun i hi => ?_) 9 Try.underlying9, strOf_bytes]
    rw [Nat.zero_add, h.cellAt i (by omega)]
    simp [Lib.byteCells, hi]

set_option maxHeartbeats 2000000 in
theorem chunk_any (a : Option Addr) (g n cap p : Nat) (us : List UInt8) (w : World) (h19 : n ≤ 524288) (hus : us.length = n) (hnc : n ≤ cap) (hp : 0 < p) (hp2 : p ≤ 2097152)
    (ha : 0 < n → a = some ⟨g, 0, none⟩ ∧ g < w.heap.size) (hc : Bytes w g 0 us n) :
    Calls Try.prog 9 #[.slice a n cap, .int .i64 p] w fun e w' => e = .returned (.string ⟨(outTo us p n).toArray⟩) ∧ Below w.heap.size w w' := by
  obtain ⟨i0, hi, hz0, hz1, hz2⟩ := info_parts Try.info5
  have HA := hide ha
  have HB0 := hide hc
  clear ha hc
  go_enter Try.func9, Try.ntmps9
  go_wp2
  go_loopw [5, 6] (fun v st wr => ∃ s : Nat, s ≤ n + p ∧ st = .int .i64 s ∧ Hid (s % p = 0) ∧ wr.ownsRow w.heap.size 5 1 v (outTo us p (min s n)).length (Lib.byteCells (outTo us p (min s n))) ∧ Below w.heap.size w wr) (fun _ st _ => n - (intOf st).toNat)
  case atStart => exact ⟨0, by omega, rfl, Nat.zero_mod p, by rw [Nat.zero_min]; exact World.ownsRow_nil _ _ _ _, Below.refl _ _⟩
  case round =>
    obtain ⟨s, hs, rfl, Hmod, hown, hbel⟩ := hrel
    by_cases hlt : s < n
    · obtain ⟨rfl, hgl⟩ := HA.out (by omega)
      rw [show min s n = s by omega] at hown
      have hbytes := HB0.out.later hbel (fun _ => hgl)
      have hll := outTo_le us p hp s
      have hmod := Hmod.out
      clear Hmod HA
      by_cases h0 : 0 < s
      · by_cases hov : n < s + p
        · have hE : outTo us p (n) = outTo us p s ++ dash p s ++ (us.drop s).take (n - s) := by
            have := outTo_chunk us p s hmod (n - s - 1) (by omega) (by omega)
            rw [show s + (n - s - 1) + 1 = n by omega, show n - s - 1 + 1 = n - s by omega] at this
            exact this
          rw [dash_yes ⟨by omega, hmod⟩] at hE
          have HE := hide hE
          have HM := hide hmod
          have HB := hide hbytes
          have HL := hide hbel
          have HO := hide hown
          clear hE hmod hbytes hbel hown
          have hd : decide ((0 : Int) < (s : Int)) = true := by simp; omega
          have he : decide ((n : Int) < (s : Int) + (p : Int)) = true := by simp; omega
          go_wp2_with (at_builtin; refine wpList_append_own _ rfl (.tmp 17) (.tmp 18) 22 rfl w.heap.size 5 i0 (.int .u8 0) 1 1 Try.underlying22 hi hz0 hz1 hz2 rfl (by decide) _ _ _ rfl (HO.out.alloc _) ⟨wr.heap.size, 0, none⟩ 1 1 [.int .u8 45] rfl rfl ?c1 ?c2 ?c3 ?c4 ?c5 ?_)
          case c1 => exact cell_one_new _ _ _
          case c2 => intro u hu; simp at hu; subst hu; rfl
          case c3 => unfold maxLen; omega
          case c4 => omega
          case c5 => have := HL.out.size; simp; omega
          intro v1 w1 hown1 hgrow1 _
          have HO1 := hide (own_bytes (C := [45]) hown1 rfl rfl)
          have HL1 : Hid (Below w.heap.size w w1) := (HL.out.alloc (by have := HL.out.size; omega) _).grown hgrow1 (by have := HL.out.size; simp; omega) (fun k hk => (HO.out.lt k hk).1)
          have HB1 := hide (HB0.out.later HL1.out (fun _ => hgl))
          clear hown1 hgrow1 HO HL HB
          have hl2 : (outTo us p s ++ [45]).length ≤ 2097152 := by simp; omega
          go_wp2_with (at_builtin; refine wpList_append_own _ rfl (.tmp 29) (.tmp 33) 22 rfl w.heap.size 5 i0 (.int .u8 0) 1 1 Try.underlying22 hi hz0 hz1 hz2 rfl (by decide) _ _ _ rfl HO1.out ⟨g, s, none⟩ (n - s) (cap - s) (Lib.byteCells ((us.drop s).take (n - s))) ?x1 ?x2 ?x3 ?x4 ?x5 ?x6 ?x7 ?_)
          case x1 => first | rfl | (simp; rfl)
          case x2 => rw [Lib.byteCells_length, List.length_take, List.length_drop]; omega
          case x3 => exact src_cells HB1.out (by omega)
          case x4 => exact bytes_one _
          case x5 => unfold maxLen; omega
          case x6 => omega
          case x7 => exact HL1.out.size
          intro v2 w2 hown2 hgrow2 _
          have HO2 := hide (own_bytes hown2 (by first | rfl | (simp; done)) (by rw [List.length_take, List.length_drop]; omega))
          have HL2 : Hid (Below w.heap.size w w2) := HL1.out.grown hgrow2 HL1.out.size (fun k hk => (HO1.out.lt k hk).1)
          clear hown2 hgrow2 HO1 HL1 HB1
          go_wp2
          go_roundw
          case rel => exact ⟨s + p, by omega, by go_num, by rw [Hid, Nat.add_mod_right]; exact HM.out, by rw [show min (s + p) n = n by omega, HE.out]; exact HO2.out, HL2.out⟩
          case measure => simp [intOf]; omega
        · have hE : outTo us p (s + p) = outTo us p s ++ dash p s ++ (us.drop s).take (p) := by
            have := outTo_chunk us p s hmod (p - 1) (by omega) (by omega)
            rw [show s + (p - 1) + 1 = s + p by omega, show p - 1 + 1 = p by omega] at this
            exact this
          rw [dash_yes ⟨by omega, hmod⟩] at hE
          have HE := hide hE
          have HM := hide hmod
          have HB := hide hbytes
          have HL := hide hbel
          have HO := hide hown
          clear hE hmod hbytes hbel hown
          have hd : decide ((0 : Int) < (s : Int)) = true := by simp; omega
          have he : decide ((n : Int) < (s : Int) + (p : Int)) = false := by simp; omega
          go_wp2_with (at_builtin; refine wpList_append_own _ rfl (.tmp 17) (.tmp 18) 22 rfl w.heap.size 5 i0 (.int .u8 0) 1 1 Try.underlying22 hi hz0 hz1 hz2 rfl (by decide) _ _ _ rfl (HO.out.alloc _) ⟨wr.heap.size, 0, none⟩ 1 1 [.int .u8 45] rfl rfl ?c1 ?c2 ?c3 ?c4 ?c5 ?_)
          case c1 => exact cell_one_new _ _ _
          case c2 => intro u hu; simp at hu; subst hu; rfl
          case c3 => unfold maxLen; omega
          case c4 => omega
          case c5 => have := HL.out.size; simp; omega
          intro v1 w1 hown1 hgrow1 _
          have HO1 := hide (own_bytes (C := [45]) hown1 rfl rfl)
          have HL1 : Hid (Below w.heap.size w w1) := (HL.out.alloc (by have := HL.out.size; omega) _).grown hgrow1 (by have := HL.out.size; simp; omega) (fun k hk => (HO.out.lt k hk).1)
          have HB1 := hide (HB0.out.later HL1.out (fun _ => hgl))
          clear hown1 hgrow1 HO HL HB
          have hl2 : (outTo us p s ++ [45]).length ≤ 2097152 := by simp; omega
          go_wp2_with (at_builtin; refine wpList_append_own _ rfl (.tmp 29) (.tmp 33) 22 rfl w.heap.size 5 i0 (.int .u8 0) 1 1 Try.underlying22 hi hz0 hz1 hz2 rfl (by decide) _ _ _ rfl HO1.out ⟨g, s, none⟩ (p) (cap - s) (Lib.byteCells ((us.drop s).take (p))) ?x1 ?x2 ?x3 ?x4 ?x5 ?x6 ?x7 ?_)
          case x1 => first | rfl | (simp; rfl)
          case x2 => rw [Lib.byteCells_length, List.length_take, List.length_drop]; omega
          case x3 => exact src_cells HB1.out (by omega)
          case x4 => exact bytes_one _
          case x5 => unfold maxLen; omega
          case x6 => omega
          case x7 => exact HL1.out.size
          intro v2 w2 hown2 hgrow2 _
          have HO2 := hide (own_bytes hown2 (by first | rfl | (simp; done)) (by rw [List.length_take, List.length_drop]; omega))
          have HL2 : Hid (Below w.heap.size w w2) := HL1.out.grown hgrow2 HL1.out.size (fun k hk => (HO1.out.lt k hk).1)
          clear hown2 hgrow2 HO1 HL1 HB1
          go_wp2
          go_roundw
          case rel => exact ⟨s + p, by omega, by go_num, by rw [Hid, Nat.add_mod_right]; exact HM.out, by rw [show min (s + p) n = s + p by omega, HE.out]; exact HO2.out, HL2.out⟩
          case measure => simp [intOf]; omega
      · by_cases hov : n < s + p
        · have hE : outTo us p (n) = outTo us p s ++ dash p s ++ (us.drop s).take (n - s) := by
            have := outTo_chunk us p s hmod (n - s - 1) (by omega) (by omega)
            rw [show s + (n - s - 1) + 1 = n by omega, show n - s - 1 + 1 = n - s by omega] at this
            exact this
          rw [dash_no (by omega), List.append_nil] at hE
          have HE := hide hE
          have HM := hide hmod
          have HB := hide hbytes
          have HL := hide hbel
          have HO := hide hown
          clear hE hmod hbytes hbel hown
          have hd : decide ((0 : Int) < (s : Int)) = false := by simp; omega
          have he : decide ((n : Int) < (s : Int) + (p : Int)) = true := by simp; omega
          go_wp2_with (at_builtin; refine wpList_append_own _ rfl (.tmp 29) (.tmp 33) 22 rfl w.heap.size 5 i0 (.int .u8 0) 1 1 Try.underlying22 hi hz0 hz1 hz2 rfl (by decide) _ _ _ rfl HO.out ⟨g, s, none⟩ (n - s) (cap - s) (Lib.byteCells ((us.drop s).take (n - s))) ?x1 ?x2 ?x3 ?x4 ?x5 ?x6 ?x7 ?_)
          case x1 => first | rfl | (simp; rfl)
          case x2 => rw [Lib.byteCells_length, List.length_take, List.length_drop]; omega
          case x3 => exact src_cells HB.out (by omega)
          case x4 => exact bytes_one _
          case x5 => unfold maxLen; omega
          case x6 => omega
          case x7 => exact HL.out.size
          intro v2 w2 hown2 hgrow2 _
          have HO2 := hide (own_bytes hown2 (by first | rfl | (simp; done)) (by rw [List.length_take, List.length_drop]; omega))
          have HL2 : Hid (Below w.heap.size w w2) := HL.out.grown hgrow2 HL.out.size (fun k hk => (HO.out.lt k hk).1)
          clear hown2 hgrow2 HO HL HB
          go_wp2
          go_roundw
          case rel => exact ⟨s + p, by omega, by go_num, by rw [Hid, Nat.add_mod_right]; exact HM.out, by rw [show min (s + p) n = n by omega, HE.out]; exact HO2.out, HL2.out⟩
          case measure => simp [intOf]; omega
        · have hE : outTo us p (s + p) = outTo us p s ++ dash p s ++ (us.drop s).take (p) := by
            have := outTo_chunk us p s hmod (p - 1) (by omega) (by omega)
            rw [show s + (p - 1) + 1 = s + p by omega, show p - 1 + 1 = p by omega] at this
            exact this
          rw [dash_no (by omega), List.append_nil] at hE
          have HE := hide hE
          have HM := hide hmod
          have HB := hide hbytes
          have HL := hide hbel
          have HO := hide hown
          clear hE hmod hbytes hbel hown
          have hd : decide ((0 : Int) < (s : Int)) = false := by simp; omega
          have he : decide ((n : Int) < (s : Int) + (p : Int)) = false := by simp; omega
          go_wp2_with (at_builtin; refine wpList_append_own _ rfl (.tmp 29) (.tmp 33) 22 rfl w.heap.size 5 i0 (.int .u8 0) 1 1 Try.underlying22 hi hz0 hz1 hz2 rfl (by decide) _ _ _ rfl HO.out ⟨g, s, none⟩ (p) (cap - s) (Lib.byteCells ((us.drop s).take (p))) ?x1 ?x2 ?x3 ?x4 ?x5 ?x6 ?x7 ?_)
          case x1 => first | rfl | (simp; rfl)
          case x2 => rw [Lib.byteCells_length, List.length_take, List.length_drop]; omega
          case x3 => exact src_cells HB.out (by omega)
          case x4 => exact bytes_one _
          case x5 => unfold maxLen; omega
          case x6 => omega
          case x7 => exact HL.out.size
          intro v2 w2 hown2 hgrow2 _
          have HO2 := hide (own_bytes hown2 (by first | rfl | (simp; done)) (by rw [List.length_take, List.length_drop]; omega))
          have HL2 : Hid (Below w.heap.size w w2) := HL.out.grown hgrow2 HL.out.size (fun k hk => (HO.out.lt k hk).1)
          clear hown2 hgrow2 HO HL HB
          go_wp2
          go_roundw
          case rel => exact ⟨s + p, by omega, by go_num, by rw [Hid, Nat.add_mod_right]; exact HM.out, by rw [show min (s + p) n = s + p by omega, HE.out]; exact HO2.out, HL2.out⟩
          case measure => simp [intOf]; omega
    · rw [show min s n = n by omega] at hown
      have hcv := conv_own hown
      have HL := hide hbel
      clear hown hbel HA HB0
      obtain ⟨S, hS⟩ : ∃ S, S = (⟨(outTo us p n).toArray⟩ : ByteArray) := ⟨_, rfl⟩
      rw [← hS] at hcv
      have HS := hide hS
      clear hS
      go_wp2
      go_ret
      exact ⟨by rw [← HS.out]; rfl, HL.out⟩
end Go.Proofs.Qxb6601858a
