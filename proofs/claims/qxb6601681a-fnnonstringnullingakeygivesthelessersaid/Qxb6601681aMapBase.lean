import Derived.Test.Qxb6601681aRows
import Derived.Test.Qxb6601681aOrder
import Derived.WalkKit
import Derived.WalkSpells
import Derived.WalkLawsBesides
import Derived.BigQuiet
import Derived.Below
import Derived.Maps.OwnSet
import Derived.Maps.RangeWalk
import Derived.Laws.IdiomRangeMap
namespace Go.Proofs.Qxb6601681a
open Go.RowKit Go.Maps
open Go.WideMaps (keyOf_string_mk)
set_option linter.unusedSimpArgs false
set_option linter.unusedVariables false

theorem mhide {p : Prop} (h : p) : Hid p := h

/-- An element as it lies. -/
def raw (v : Value) : Option (DataW Value × List MemPlace) := some (.held v, [])
def zd : DataW Value := .held (.slice none 0 0)
def kL (s : ByteArray) : Lit := .string s.data.toList
theorem kL_ne {a b : ByteArray} (h : a ≠ b) : kL a ≠ kL b := by
  intro e
  apply h
  have : a.data.toList = b.data.toList := by simpa [kL] using e
  cases a; cases b
  simp at this
  rw [this]
theorem kL_key (s : ByteArray) : WideAt.IsKeyLit (kL s) := by simp [kL, WideAt.IsKeyLit]
theorem keyAt (s : ByteArray) (hs : s.size ≤ maxLen) : keyOf Try.prog 9 (.string s) = some (kL s) := keyOf_string_mk Try.underlying9 hs
theorem klaw : Keyed Try.prog 9 := string_keyed Try.underlying9
theorem key_inv {key : Value} {kl : Lit} (h : keyOf Try.prog 9 key = some kl) : ∃ s : ByteArray, key = .string s ∧ kl = kL s ∧ s.size ≤ maxLen := by
  cases key <;> simp [keyOf, Try.underlying9, mapKey] at h
  rename_i s
  exact ⟨s, rfl, h.2.symm, h.1⟩

/-- A map of the type map[string][]*string, or nil: it reads as D. -/
def Pm (w : World) (p : Option Nat) (n : Nat) (D : DataW Value) : Prop := (p = none ∧ D = .map []) ∨ ∃ b, p = some b ∧ w.ownsMap Try.prog 9 raw b n D

theorem Pm.isMap {w : World} {p : Option Nat} {n : Nat} {D : DataW Value} (h : Pm w p n D) : IsMap D := by
  rcases h with ⟨_, rfl⟩ | ⟨b, _, h⟩
  · exact isMap_empty
  · exact h.isMap
theorem Pm.kept {w w' : World} {p : Option Nat} {n : Nat} {D : DataW Value} (h : Pm w p n D) (hb : Below w.heap.size w w') : Pm w' p n D := by
  rcases h with h | ⟨b, rfl, h⟩
  · exact Or.inl h
  · have hlt := h.lt
    obtain ⟨es, clock, hh, r⟩ := h
    exact Or.inr ⟨b, rfl, es, clock, (hb.block b hlt).trans hh, r⟩

/-- A look-up, in whatever world that differs by draws. -/
theorem Pm.look {w : World} {p : Option Nat} {n : Nat} {D : DataW Value} (h : Pm w p n D) (s : ByteArray) (hs : s.size ≤ maxLen) :
    ∃ v, D.atKey (kL s) zd = .held v ∧ (∀ q, (Instr.lookup 32 (.map p) (.string s) false).run Try.prog (w.drewN q) = .ok v (w.drewN q)) ∧
      ∀ q, (Instr.lookup 32 (.map p) (.string s) true).run Try.prog (w.drewN q) = .ok (.tuple #[v, .bool (Maps.has D (kL s))]) (w.drewN q) := by
  have hz : ∀ w, (zeroValue 42).run Try.prog w = .ok (.slice none 0 0) w := Try.zeroValue42
  rcases h with ⟨rfl, rfl⟩ | ⟨b, rfl, h⟩
  · refine ⟨.slice none 0 0, rfl, fun q => ?_, fun q => ?_⟩
    · exact look_nil false klaw Try.underlying32 (hz _) (keyAt s hs)
    · exact look_nil true klaw Try.underlying32 (hz _) (keyAt s hs)
  · obtain ⟨v, ps, _, hv⟩ := h.lookup klaw Try.underlying32 (hz w) (zd := zd) (zp := []) rfl (keyAt s hs)
    have e0 : D.atKey (kL s) zd = .held v := by simp [raw] at hv; exact hv.1.symm
    refine ⟨v, e0, fun q => ?_, fun q => ?_⟩
    · have hq : (w.drewN q).ownsMap Try.prog 9 raw b n D := h
      obtain ⟨v1, ps1, hrun, hv1⟩ := hq.lookup klaw Try.underlying32 (hz _) (zd := zd) (zp := []) rfl (keyAt s hs)
      have e1 : v1 = v := by simp [raw] at hv1; have := hv1.1; rw [e0] at this; cases this; rfl
      rw [← e1]; exact hrun
    · have hq : (w.drewN q).ownsMap Try.prog 9 raw b n D := h
      obtain ⟨v1, ps1, hrun, hv1⟩ := hq.look_ok klaw Try.underlying32 (hz _) (zd := zd) (zp := []) rfl (keyAt s hs)
      have e1 : v1 = v := by simp [raw] at hv1; have := hv1.1; rw [e0] at this; cases this; rfl
      rw [← e1]; exact hrun

/-- A slice of pointers. -/
def Ptrs (w : World) (v : Value) (ps : List (Option Addr)) : Prop := ∃ (a : Option Addr) (b off cap : Nat), v = .slice a ps.length cap ∧ (a = none → ps = []) ∧ (0 < ps.length → a = some ⟨b, off, none⟩) ∧
  (∀ j, j < ps.length → w.cell? ⟨b, off + j, none⟩ = some (.pointer (ps.getD j none))) ∧ ps.length ≤ maxLen
def nilS : Value → Bool
  | .slice none _ _ => true
  | _ => false
/-- It is nil, or holds a nil. -/
def vbad (v : Value) (ps : List (Option Addr)) : Bool := nilS v || ps.any Option.isNone

/-- No cell has turned. -/
def Keeps (w w' : World) : Prop := ∀ a v, w.cell? a = some v → w'.cell? a = some v
theorem Keeps.refl (w : World) : Keeps w w := fun _ _ h => h
theorem Keeps.trans {a b c : World} (h : Keeps a b) (k : Keeps b c) : Keeps a c := fun x v e => k x v (h x v e)
theorem Keeps.of_below {w w' : World} (h : Below w.heap.size w w') : Keeps w w' := fun a v e => cell_later h e
theorem Keeps.of_map {w w' : World} {b : Nat} {es : Array MapEntry} {clock : Nat} (hb : w.heap[b]? = some (.map es clock)) (hg : w.grownBy w' (some b)) : Keeps w w' := by
  intro a v e
  refine hg.cell e ?_
  intro e2
  have e3 : a.block = b := Option.some.inj e2
  simp [World.cell?, e3, hb] at e

theorem Ptrs.keep {w w' : World} {v : Value} {ps : List (Option Addr)} (h : Ptrs w v ps) (k : Keeps w w') : Ptrs w' v ps := by
  obtain ⟨a, b, off, cap, h1, h2, h3, h4, h5⟩ := h
  exact ⟨a, b, off, cap, h1, h2, h3, fun j hj => k _ _ (h4 j hj), h5⟩
theorem Ptrs.nil (w : World) : Ptrs w (.slice none 0 0) [] := ⟨none, 0, 0, 0, rfl, fun _ => rfl, fun h => absurd h (by decide), fun j h => absurd h (by simp), Nat.zero_le _⟩

/-- Every element of D is a slice of pointers; which keys are bad. -/
def GoodMap (w : World) (D : DataW Value) (β : ByteArray → Bool) : Prop := ∀ s : ByteArray, ∃ v ps, D.atKey (kL s) zd = .held v ∧ Ptrs w v ps ∧ (Maps.has D (kL s) = true → vbad v ps = β s)
theorem GoodMap.keep {w w' : World} {D : DataW Value} {β : ByteArray → Bool} (h : GoodMap w D β) (k : Keeps w w') : GoodMap w' D β := by
  intro s
  obtain ⟨v, ps, h1, h2, h3⟩ := h s
  exact ⟨v, ps, h1, h2.keep k, h3⟩

/-- 'key' is the least bad key of D, or there is none. -/
def Least (D : DataW Value) (β : ByteArray → Bool) (key : ByteArray) (found : Bool) : Prop :=
  (found = true → Maps.has D (kL key) = true ∧ β key = true) ∧ ∀ s, Maps.has D (kL s) = true → β s = true → found = true ∧ lt s key = false
/-- What nonString hands back. -/
def NsRet (D : DataW Value) (β : ByteArray → Bool) (e : Ending) : Prop := ∃ key found, e = .returned (.tuple #[.string key, .bool found]) ∧ Least D β key found
/-- The same over the keys that have come. -/
def LeastIn (D : DataW Value) (β : ByteArray → Bool) (left : Lit → Bool) (key : ByteArray) (found : Bool) : Prop :=
  (found = true → Maps.has D (kL key) = true ∧ β key = true) ∧ ∀ s, Maps.has D (kL s) = true → left (kL s) = false → β s = true → found = true ∧ lt s key = false

theorem LeastIn.start (D : DataW Value) (β : ByteArray → Bool) (key : ByteArray) : LeastIn D β (Maps.has D) key false :=
  ⟨fun h => (by cases h), fun s h1 h2 => (by rw [h1] at h2; cases h2)⟩
theorem LeastIn.finish {D : DataW Value} {β : ByteArray → Bool} {left : Lit → Bool} {key : ByteArray} {found : Bool} (h : LeastIn D β left key found) (hl : ∀ kl, left kl = false) : Least D β key found :=
  ⟨h.1, fun s h1 h2 => h.2 s h1 (hl _) h2⟩
theorem left_split {left : Lit → Bool} {s x : ByteArray} (h : (left (kL s) && !(kL s).sameKey (kL x)) = false) : left (kL s) = false ∨ s = x := by
  rcases Bool.and_eq_false_iff.1 h with h | h
  · exact Or.inl h
  · right
    have h2 : (kL s).sameKey (kL x) = true := by simpa using h
    have := (WideAt.sameKey_iff (kL_key x)).1 h2
    exact Classical.byContradiction fun hn => kL_ne hn this
/-- The key that has come is not bad, or not less. -/
theorem LeastIn.stay {D : DataW Value} {β : ByteArray → Bool} {left : Lit → Bool} {key x : ByteArray} {found : Bool} (h : LeastIn D β left key found) (hx : β x = true → found = true ∧ lt x key = false) :
    LeastIn D β (fun z => left z && !z.sameKey (kL x)) key found := by
  refine ⟨h.1, fun s h1 h2 h3 => ?_⟩
  rcases left_split h2 with h2 | rfl
  · exact h.2 s h1 h2 h3
  · exact hx h3
/-- The key that has come is the new least. -/
theorem LeastIn.take {D : DataW Value} {β : ByteArray → Bool} {left : Lit → Bool} {key x : ByteArray} {found : Bool} (h : LeastIn D β left key found) (hh : Maps.has D (kL x) = true) (hx : β x = true) (hl : found = true → lt x key = true) :
    LeastIn D β (fun z => left z && !z.sameKey (kL x)) x true := by
  refine ⟨fun _ => ⟨hh, hx⟩, fun s h1 h2 h3 => ⟨rfl, ?_⟩⟩
  rcases left_split h2 with h2 | rfl
  · obtain ⟨f, hlt⟩ := h.2 s h1 h2 h3
    cases hc : lt s x
    · rfl
    · have := lt_trans hc (hl f)
      rw [hlt] at this; cases this
  · exact lt_irrefl _
end Go.Proofs.Qxb6601681a
