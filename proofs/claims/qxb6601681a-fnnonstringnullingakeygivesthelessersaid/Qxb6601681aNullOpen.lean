import Derived.Test.Qxb6601681aNullTop
import Derived.ProofKit
import Derived.SliceStrings
namespace Go.Proofs.Qxb6601681a
open Go.RowKit Go.Maps Go.ChangeShapes
open Go.WideElems (Fit rd rg elemAt)
set_option linter.unusedSimpArgs false
set_option linter.unusedVariables false

theorem Try.cells50 : Try.prog.cellsOf 50 = 1 := by kernel_rfl
theorem Try.cells9 : Try.prog.cellsOf 9 = 1 := by kernel_rfl

section
variable {H : Type} {enc : TypeId × Value → H} {w : World} {base : Nat} {spare : Nat → Bool} {held : Bool}

theorem ptr_elem {fuel : Nat} {cs : List Value} {x : DataW H × List MemPlace} (h : DataW.trod enc Try.prog w base spare held fuel 50 cs = some x) :
    cs = [.pointer none] ∨ ∃ ad s, cs = [.pointer (some ad)] ∧ w.cell? ad = some (.string s) ∧ s.size ≤ maxLen := by
  rcases DataW.trod_pointer Try.underlying50 h with ⟨h1, _⟩ | ⟨ad, cs', y, n, _, h1, _, h2, h3⟩
  · exact Or.inl h1
  · right
    rw [Try.cells9] at h2
    obtain ⟨s, rfl, _, hs⟩ := DataW.trod_string Try.underlying9 h3
    exact ⟨ad, s, h1, cell_of_cells?_one h2, hs⟩

/-- The pointer in a cell. -/
def ptrOf : Option Value → Option Addr
  | some (.pointer p) => p
  | _ => none

theorem slice_ptrs {fuel : Nat} {v : Value} {x : DataW H × List MemPlace} (hf : v.formed Try.prog 42 = true) (h : DataW.trod enc Try.prog w base spare held fuel 42 v.cells.toList = some x) : ∃ ps, Ptrs w v ps ∧ Strs w ps := by
  rcases DataW.trod_slice Try.underlying42 h with ⟨h1, _⟩ | ⟨a, len, cap, elems, rest, n, _, h1, _, _, hl, hm, hlen, hel, _, _⟩
  · have hv : v = .slice none 0 0 := by
      cases v <;> simp [Value.formed, Try.underlying42, Value.cells] at hf h1
      simp [h1]
    subst hv
    exact ⟨[], Ptrs.nil w, fun j ad hj => absurd hj (by simp)⟩
  · have hv : v = .slice (some a) len cap := by
      cases v <;> simp [Value.formed, Try.underlying42, Value.cells] at hf h1
      simp [h1]
    subst hv
    have each : ∀ i, i < len → ∃ p, w.cell? (a.add i) = some (.pointer p) ∧ ∀ ad, p = some ad → ∃ s, w.cell? ad = some (.string s) ∧ s.size ≤ maxLen := by
      intro i hi
      have he := hel i hi
      rw [Try.cells50, Nat.mul_one, List.getElem?_eq_getElem (by omega), Option.bind_eq_some_iff] at he
      obtain ⟨cs', hcs, ht⟩ := he
      rcases ptr_elem ht with rfl | ⟨ad, s, rfl, hs1, hs2⟩
      · exact ⟨none, cell_of_cells?_one hcs, fun ad h => by cases h⟩
      · exact ⟨some ad, cell_of_cells?_one hcs, fun ad' h => by cases h; exact ⟨s, hs1, hs2⟩⟩
    obtain ⟨b, off, spot⟩ := a
    have hspot : 0 < len → spot = none := fun h0 => by
      obtain ⟨p, hp, _⟩ := each 0 h0
      simpa [Addr.add] using World.cell?_spot hp
    have hget : ∀ j, j < len → ((List.range len).map fun i => ptrOf (w.cell? ((⟨b, off, spot⟩ : Addr).add i))).getD j none = ptrOf (w.cell? ((⟨b, off, spot⟩ : Addr).add j)) := fun j hj => by
      simp [List.getD, hj]
    refine ⟨(List.range len).map fun i => ptrOf (w.cell? ((⟨b, off, spot⟩ : Addr).add i)), ⟨some ⟨b, off, spot⟩, b, off, cap, by simp, fun h => (by cases h), fun h0 => ?_, fun j hj => ?_, ?_⟩, fun j ad hj hp => ?_⟩
    · rw [hspot (by simpa using h0)]
    · have hj' : j < len := by simpa using hj
      obtain ⟨p, hp, _⟩ := each j hj'
      rw [hget j hj', hp]
      have := hspot (by omega)
      subst this
      rw [Addr.add_lit] at hp
      rw [hp]; rfl
    · simp; omega
    · have hj' : j < len := by simpa using hj
      obtain ⟨p, hp1, hp2⟩ := each j hj'
      rw [hget j hj', hp1] at hp
      exact hp2 ad hp

/-- The map that came in, its elements as they lie. -/
theorem map_own {b : Nat} {es : Array MapEntry} {clock m : Nat} (hb : w.heap[b]? = some (.map es clock)) (F : Fit Try.prog 9 (elemAt enc Try.prog w base spare held m 42) es clock) :
    ∃ D, w.ownsMap Try.prog 9 raw b es.size D ∧ GoodArg w D := by
  have hrd : ∀ x ∈ es.toList, ∃ key, rd Try.prog 9 raw x = some (key, .held x.val) ∧ ∃ ps, Ptrs w x.val ps ∧ Strs w ps := by
    intro x hx
    obtain ⟨y, hy⟩ := F.reads x hx
    unfold rd at hy
    rw [Option.bind_eq_some_iff] at hy
    obtain ⟨key, hk, hm⟩ := hy
    rw [Option.map_eq_some_iff] at hm
    obtain ⟨z, hz, _⟩ := hm
    refine ⟨key, by simp [rd, hk, raw], ?_⟩
    unfold elemAt at hz
    split at hz
    · next hf => exact slice_ptrs hf hz
    · cases hz
  refine ⟨.map ((es.toList.map (rg Try.prog 9 raw)).foldr DataW.insert []), ⟨es, clock, hb, ⟨F.size, F.stamped, fun x hx => by obtain ⟨key, h, _⟩ := hrd x hx; exact ⟨_, h⟩⟩, Nat.le_refl _, rfl⟩, ?_⟩
  intro s
  cases hfi : ((es.toList.map (rg Try.prog 9 raw)).foldr DataW.insert []).find? (fun p => p.1.sameKey (kL s)) with
  | none => exact ⟨.slice none 0 0, [], by simp only [DataW.atKey, hfi]; rfl, Ptrs.nil w, fun j ad hj => absurd hj (by simp)⟩
  | some p =>
    have hmem := List.mem_of_find?_eq_some hfi
    have hmem2 := (WideShapes.sorted_perm _).mem_iff.1 hmem
    obtain ⟨x, hx, rfl⟩ := List.mem_map.1 hmem2
    obtain ⟨key, h1, ps, h2, h3⟩ := hrd x hx
    exact ⟨x.val, ps, by simp only [DataW.atKey, hfi]; simp [rg, h1], h2, h3⟩
end
end Go.Proofs.Qxb6601681a
