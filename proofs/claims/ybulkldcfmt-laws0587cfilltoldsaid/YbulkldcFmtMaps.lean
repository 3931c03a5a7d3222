/-
  A MAP KEYED BY STRINGS, ITS ELEMENTS HELD AS THE VALUES THAT THEY ARE: 'MapAt w b n f': block b is a map of n entries: at the key s it holds 'f s'.
-/
import Derived.Test.YbulkldcFmtErr
import Derived.Maps.OwnSet
import Derived.Below
import Derived.StringKeys
namespace Go.Proofs.YbulkldcFmt
open Go.RowKit Go.Maps
set_option linter.unusedVariables false

def heldR (v : Value) : Option (DataW Value × List MemPlace) := some (.held v, [])
def keyLit (s : ByteArray) : Lit := .string s.data.toList
theorem keyLit_inj {s s' : ByteArray} (h : keyLit s = keyLit s') : s = s' := by
  unfold keyLit at h
  injection h with h
  cases s; cases s'
  simp at h
  simp [h]
theorem keyLaw : Keyed Ybaf.prog 9 := string_keyed Ybaf.underlying9

def MapAt (w : World) (b n : Nat) (f : ByteArray → Option Value) : Prop :=
  ∃ D : DataW Value, w.ownsMap Ybaf.prog 9 heldR b n D ∧ Maps.size D = n ∧ ∀ s, s.size ≤ maxLen → Maps.has D (keyLit s) = (f s).isSome ∧ ∀ v, f s = some v → ∀ z, D.atKey (keyLit s) z = .held v

theorem tight {w : World} {b N : Nat} {D : DataW Value} (h : w.ownsMap Ybaf.prog 9 heldR b N D) : w.ownsMap Ybaf.prog 9 heldR b (Maps.size D) D := by
  obtain ⟨es, clock, hb, F, hs, rfl⟩ := h
  exact ⟨es, clock, hb, F, by simp [Maps.size, length_sorted], rfl⟩

theorem mapAt_made (w : World) : MapAt (w.alloc (.map #[] 0)) w.heap.size 0 (fun _ => none) :=
  ⟨.map [], World.ownsMap_made _ _ _ _, rfl, fun s _ => ⟨rfl, fun v h => by cases h⟩⟩

theorem MapAt.lt {w : World} {b n : Nat} {f : ByteArray → Option Value} (h : MapAt w b n f) : b < w.heap.size := by
  obtain ⟨D, h1, _⟩ := h
  exact h1.lt

theorem MapAt.of_block {w w' : World} {b n : Nat} {f : ByteArray → Option Value} (h : MapAt w b n f) (hb : w'.heap[b]? = w.heap[b]?) : MapAt w' b n f := by
  obtain ⟨D, ⟨es, clock, h1, h2, h3, h4⟩, h5, h6⟩ := h
  exact ⟨D, ⟨es, clock, hb.trans h1, h2, h3, h4⟩, h5, h6⟩

theorem MapAt.same {w : World} {b n : Nat} {f g : ByteArray → Option Value} (h : MapAt w b n f) (hfg : ∀ s, s.size ≤ maxLen → f s = g s) : MapAt w b n g := by
  obtain ⟨D, h1, h2, h3⟩ := h
  exact ⟨D, h1, h2, fun s hs => by rw [← hfg s hs]; exact h3 s hs⟩

/-- 'v, ok := m[k]', 'm[k]'. -/
theorem MapAt.look {w : World} {b n : Nat} {f : ByteArray → Option Value} (h : MapAt w b n f) {t e : TypeId} (ht : Ybaf.prog.underlying t = some (.map 9 e)) {z : Value} (hz : (zeroValue e).run Ybaf.prog w = .ok z w) {s : ByteArray} (hs : s.size ≤ maxLen) :
    (Instr.lookup t (.map (some b)) (.string s) true).run Ybaf.prog w = .ok (.tuple #[(f s).getD z, .bool (f s).isSome]) w ∧ (Instr.lookup t (.map (some b)) (.string s) false).run Ybaf.prog w = .ok ((f s).getD z) w := by
  obtain ⟨D, h1, h2, h3⟩ := h
  obtain ⟨h4, h5⟩ := h3 s hs
  have hkey : keyOf Ybaf.prog 9 (.string s) = some (keyLit s) := WideMaps.keyOf_string_mk Ybaf.underlying9 hs
  obtain ⟨v, ps, hrun, hv⟩ := h1.look_ok keyLaw ht hz (zd := .held z) (zp := []) rfl hkey
  obtain ⟨v', ps', hrun', hv'⟩ := h1.lookup keyLaw ht hz (zd := .held z) (zp := []) rfl hkey
  have val : ∀ u, heldR u = some (D.atKey (keyLit s) (.held z), ps) → u = (f s).getD z := by
    intro u hu
    unfold heldR at hu
    cases hf : f s with
    | some y =>
      rw [h5 y hf] at hu
      simp at hu
      simp [hu.1]
    | none =>
      rw [hf] at h4
      rw [atKey_of_not_has (by simpa using h4)] at hu
      simp at hu
      simp [hu.1]
  have e1 := val v hv
  have e2 : v' = (f s).getD z := by
    have : ps' = ps := by
      unfold heldR at hv hv'
      simp at hv hv'
      rw [hv.2, hv'.2]
    rw [this] at hv'
    exact val v' hv'
  rw [h4, e1] at hrun
  rw [e2] at hrun'
  exact ⟨hrun, hrun'⟩

def fput (f : ByteArray → Option Value) (s : ByteArray) (v : Value) : ByteArray → Option Value := fun x => if x = s then some v else f x
def fdel (f : ByteArray → Option Value) (s : ByteArray) : ByteArray → Option Value := fun x => if x = s then none else f x

/-- 'm[k] = v', k not there. -/
theorem MapAt.store {w : World} {b n : Nat} {f : ByteArray → Option Value} (h : MapAt w b n f) {t e : TypeId} (ht : Ybaf.prog.underlying t = some (.map 9 e)) {s : ByteArray} (hs : s.size ≤ maxLen) (v : Value) (hf : f s = none) (hn : n < maxLen) :
    ∃ w', (Instr.mapUpdate t (.map (some b)) (.string s) v).run Ybaf.prog w = .ok () w' ∧ MapAt w' b (n + 1) (fput f s v) ∧ w.grownBy w' (some b) := by
  obtain ⟨D, h1, h2, h3⟩ := h
  have hkey : keyOf Ybaf.prog 9 (.string s) = some (keyLit s) := WideMaps.keyOf_string_mk Ybaf.underlying9 hs
  have hns : Maps.has D (keyLit s) = false := by rw [(h3 s hs).1, hf]; rfl
  obtain ⟨w', hrun, r1, r2⟩ := h1.update keyLaw ht hn hkey (val := v) (d := .held v) (ps := []) rfl
  have hk : WideAt.IsKeyLit (keyLit s) := trivial
  have hsz : Maps.size (D.put (keyLit s) (.held v)) = n + 1 := by rw [size_put (h1.tidy keyLaw), hns]; simp [h2]
  refine ⟨w', hrun, ⟨_, by have := tight r1; rwa [hsz] at this, hsz, fun x hx => ?_⟩, r2⟩
  unfold fput
  by_cases e : x = s
  · subst e
    rw [if_pos rfl]
    exact ⟨by rw [has_put_same h1.isMap hk]; rfl, fun y hy z => by cases hy; exact atKey_put_same h1.isMap hk _ _⟩
  · rw [if_neg e]
    have hne : keyLit x ≠ keyLit s := fun h => e (keyLit_inj h)
    exact ⟨by rw [has_put_other hne]; exact (h3 x hx).1, fun y hy z => by rw [atKey_put_other hne]; exact (h3 x hx).2 y hy z⟩

/-- 'delete(m, k)', k there. -/
theorem MapAt.drop {w : World} {b n : Nat} {f : ByteArray → Option Value} (h : MapAt w b (n + 1) f) {t e : TypeId} (ht : Ybaf.prog.underlying t = some (.map 9 e)) {s : ByteArray} (hs : s.size ≤ maxLen) (hf : (f s).isSome = true) (ty : TypeId) :
    ∃ w', (Builtin.delete_ #[t, 9] ty #[.map (some b), .string s]).run Ybaf.prog w = .ok (.tuple #[]) w' ∧ MapAt w' b n (fdel f s) ∧ w.grownBy w' (some b) := by
  obtain ⟨D, h1, h2, h3⟩ := h
  have hkey : keyOf Ybaf.prog 9 (.string s) = some (keyLit s) := WideMaps.keyOf_string_mk Ybaf.underlying9 hs
  have hns : Maps.has D (keyLit s) = true := by rw [(h3 s hs).1]; exact hf
  obtain ⟨w', hrun, r1, r2⟩ := h1.drop keyLaw ht hkey ty
  have hsz : Maps.size (D.del (keyLit s)) = n := by have := size_del (k := keyLit s) (h1.tidy keyLaw); rw [hns] at this; simp at this; omega
  refine ⟨w', hrun, ⟨_, by have := tight r1; rwa [hsz] at this, hsz, fun x hx => ?_⟩, r2.grown⟩
  unfold fdel
  by_cases e : x = s
  · subst e
    rw [if_pos rfl]
    exact ⟨by rw [has_del_same]; rfl, fun y hy z => by cases hy⟩
  · rw [if_neg e]
    have hne : keyLit x ≠ keyLit s := fun h => e (keyLit_inj h)
    exact ⟨by rw [has_del_other hne]; exact (h3 x hx).1, fun y hy z => by rw [atKey_del_other hne]; exact (h3 x hx).2 y hy z⟩

/-- 'len(m)'. -/
theorem MapAt.len {w : World} {b n : Nat} {f : ByteArray → Option Value} (h : MapAt w b n f) {t e : TypeId} (ht : Ybaf.prog.underlying t = some (.map 9 e)) (ty : TypeId) : (Builtin.len_ #[t] ty #[.map (some b)]).run Ybaf.prog w = .ok (.int .i64 n) w := by
  obtain ⟨D, h1, h2, h3⟩ := h
  have := h1.len ht ty
  rw [h2] at this
  exact this
end Go.Proofs.YbulkldcFmt
