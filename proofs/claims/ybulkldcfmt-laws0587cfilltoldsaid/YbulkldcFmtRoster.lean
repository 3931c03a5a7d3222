/-
  THE ROSTER: a chain of links and a map of them by key.
-/
import Derived.Test.YbulkldcFmtMaps
import Derived.Deep.DeepCutAuto
import Derived.Deep.QuietTactic
import Derived.BigQuiet
import Derived.BigRegion
import Derived.Deep.RegionHeld3
import Derived.Deep.LoopGhost
import Derived.Deep.CutBlock
namespace Go.Proofs.YbulkldcFmt
open Go.RowKit
set_option linter.unusedVariables false

/-- All but the blocks of S is as it was. -/
def Keeps (S : Nat → Prop) (w w' : World) : Prop := w'.os = w.os ∧ w'.tape = w.tape ∧ w'.output = w.output ∧ w.heap.size ≤ w'.heap.size ∧ ∀ k, k < w.heap.size → ¬ S k → w'.heap[k]? = w.heap[k]?

theorem Keeps.refl (S : Nat → Prop) (w : World) : Keeps S w w := ⟨rfl, rfl, rfl, Nat.le_refl _, fun _ _ _ => rfl⟩
theorem Keeps.trans {S : Nat → Prop} {a b c : World} (h : Keeps S a b) (k : Keeps S b c) : Keeps S a c :=
  ⟨k.1.trans h.1, k.2.1.trans h.2.1, k.2.2.1.trans h.2.2.1, Nat.le_trans h.2.2.2.1 k.2.2.2.1, fun j hj hs => (k.2.2.2.2 j (Nat.lt_of_lt_of_le hj h.2.2.2.1) hs).trans (h.2.2.2.2 j hj hs)⟩
theorem Keeps.mono {S T : Nat → Prop} {w w' : World} (h : Keeps S w w') (hst : ∀ k, k < w.heap.size → S k → T k) : Keeps T w w' := ⟨h.1, h.2.1, h.2.2.1, h.2.2.2.1, fun k hk ht => h.2.2.2.2 k hk fun hs => ht (hst k hk hs)⟩
theorem Keeps.size {S : Nat → Prop} {w w' : World} (h : Keeps S w w') : w.heap.size ≤ w'.heap.size := h.2.2.2.1
theorem Keeps.drew {S : Nat → Prop} {a w : World} (h : Keeps S a w) : Keeps S a w.drew := h
theorem Keeps.drewN {S : Nat → Prop} {a w : World} (h : Keeps S a w) (n : Nat) : Keeps S a (w.drewN n) := h.trans ⟨rfl, rfl, rfl, Nat.le_refl _, fun _ _ _ => rfl⟩
theorem Keeps.alloc {S : Nat → Prop} {a w : World} (h : Keeps S a w) (o : Obj) : Keeps S a (w.alloc o) :=
  h.trans ⟨rfl, rfl, rfl, by simp, fun k hk _ => Below.heap_alloc w o k hk⟩
theorem Keeps.setCell {S : Nat → Prop} {a w : World} (h : Keeps S a w) {p : Addr} (hp : S p.block) (u : Value) : Keeps S a (w.setCell p u) :=
  h.trans ⟨rfl, rfl, rfl, by simp, fun k _ hs => Below.heap_setCell w p u k fun e => hs (e ▸ hp)⟩
/-- A store into a block that was not there at the start. -/
theorem Keeps.setNew {S : Nat → Prop} {a w : World} (h : Keeps S a w) {p : Addr} (hp : a.heap.size ≤ p.block) (u : Value) : Keeps S a (w.setCell p u) := by
  refine ⟨h.1, h.2.1, h.2.2.1, by simpa using h.size, fun k hk hs => ?_⟩
  rw [Below.heap_setCell w p u k (by omega)]
  exact h.2.2.2.2 k hk hs
theorem Keeps.grown {S : Nat → Prop} {a w w' : World} {row : Option Nat} (h : Keeps S a w) (hg : w.grownBy w' row) (hr : ∀ k, row = some k → S k ∨ a.heap.size ≤ k) : Keeps S a w' := by
  refine ⟨hg.os.trans h.1, hg.tape.trans h.2.1, hg.output.trans h.2.2.1, Nat.le_trans h.size hg.size, fun k hk hs => ?_⟩
  have hk' : k < w.heap.size := Nat.lt_of_lt_of_le hk h.size
  rw [hg.block k hk' (fun e => by
    rcases hr k e.symm with h1 | h1
    · exact hs h1
    · omega)]
  exact h.2.2.2.2 k hk hs
theorem Keeps.below {S : Nat → Prop} {w w' : World} {B : Nat} (h : Keeps S w w') (hB : B ≤ w.heap.size) (hs : ∀ k, k < w.heap.size → S k → B ≤ k) : Below B w w' :=
  ⟨h.1, h.2.1, h.2.2.1, h.size, fun k hk => h.2.2.2.2 k (by omega) fun hsk => by have := hs k (by omega) hsk; omega⟩
theorem Keeps.of_below {S : Nat → Prop} {w w' : World} (h : Below w.heap.size w w') : Keeps S w w' := ⟨h.os, h.tape, h.output, h.size, fun k hk _ => h.block k hk⟩
theorem Keeps.cell {S : Nat → Prop} {w w' : World} (h : Keeps S w w') {p : Addr} (hp : p.block < w.heap.size) (hs : ¬ S p.block) : w'.cell? p = w.cell? p := World.cell?_of_block (h.2.2.2.2 _ hp hs)
theorem Keeps.frozen {S : Nat → Prop} {w w' : World} (h : Keeps S w w') {p : Addr} (hp : p.block < w.heap.size) (hs : ¬ S p.block) : w'.frozen? p = w.frozen? p := World.frozen?_of_block (h.2.2.2.2 _ hp hs)

/-- A cell behind a store into another block, or another place. -/
theorem cell_set_ne {w : World} {b o b' o' : Nat} {u : Value} (h : b ≠ b' ∨ o ≠ o') : (w.setCell ⟨b, o, none⟩ u).cell? ⟨b', o', none⟩ = w.cell? ⟨b', o', none⟩ := by
  apply World.cell?_setCell_other
  intro e
  cases e
  rcases h with h | h <;> exact h rfl


theorem hide {p : Prop} (h : p) : Hid p := h
def ptr (b : Nat) : Value := .pointer (some ⟨b, 0, none⟩)

/-- 'm[k] = v' at the operation, k not there. -/
theorem wpList_mapStore {w : World} {ops : Array Oper} {rest : List Oper} {o : Oper} {a : Act} {Q : Exit → Act → World → Prop} (hg : o.guard = none) (m x v : Operand) (t : TypeId) (hop : o.op = Op.mapUpdate t m x v) (e : TypeId) (ht : Ybaf.prog.underlying t = some (.map 9 e))
    (b n : Nat) (f : ByteArray → Option Value) (s : ByteArray) (val : Value) (hm : a.eval m = .map (some b)) (hx : a.eval x = .string s) (hv : a.eval v = val) (h : MapAt w b n f) (hs : s.size ≤ maxLen) (hf : f s = none) (hn : n < maxLen)
    (hK : ∀ w', MapAt w' b (n + 1) (fput f s val) → w.grownBy w' (some b) → wpList Ybaf.prog ops Q rest (a.put o.dst undef) w') : wpList Ybaf.prog ops Q (o :: rest) a w := by
  refine wpList_plain hg fun K' hK' => ?_
  obtain ⟨w', hrun, r1, r2⟩ := h.store ht hs val hf hn
  unfold Oper.wp
  simp [execOp, hop, hm, hx, hv, hrun, Result.andThen]
  exact hK' _ _ (hK w' r1 r2)

/-- What add leaves of an empty roster. -/
def Added0 (b o : Nat) (s : ByteArray) (v : Nat) (w w' : World) : Prop :=
  ∃ l M, w.heap.size ≤ l ∧ w.heap.size ≤ M ∧ l ≠ M ∧ w'.cell? ⟨b, o, none⟩ = some (ptr l) ∧ w'.cell? ⟨b, o + 1, none⟩ = some (ptr l) ∧ w'.cell? ⟨b, o + 2, none⟩ = some (.map (some M)) ∧ MapAt w' M 1 (fput (fun _ => none) s (ptr l)) ∧
    w'.cell? ⟨l, 0, none⟩ = some (ptr v) ∧ w'.cell? ⟨l, 1, none⟩ = some (.pointer none) ∧ w'.cell? ⟨l, 2, none⟩ = some (.pointer none) ∧ (∀ j, w'.frozen? ⟨l, j, none⟩ = false) ∧
    Keeps (fun k => k = b) w w' ∧ (∀ j, j ≠ o → j ≠ o + 1 → j ≠ o + 2 → w'.cell? ⟨b, j, none⟩ = w.cell? ⟨b, j, none⟩) ∧ (∀ j, w'.frozen? ⟨b, j, none⟩ = w.frozen? ⟨b, j, none⟩)

/-- What add leaves of a roster that is not empty. -/
def AddedS (b o l' M n : Nat) (f : ByteArray → Option Value) (s : ByteArray) (v : Nat) (w w' : World) : Prop :=
  ∃ l, w.heap.size ≤ l ∧ w'.cell? ⟨b, o, none⟩ = w.cell? ⟨b, o, none⟩ ∧ w'.cell? ⟨b, o + 1, none⟩ = some (ptr l) ∧ w'.cell? ⟨b, o + 2, none⟩ = some (.map (some M)) ∧ MapAt w' M (n + 1) (fput f s (ptr l)) ∧
    w'.cell? ⟨l, 0, none⟩ = some (ptr v) ∧ w'.cell? ⟨l, 1, none⟩ = some (ptr l') ∧ w'.cell? ⟨l, 2, none⟩ = some (.pointer none) ∧ (∀ j, w'.frozen? ⟨l, j, none⟩ = false) ∧
    w'.cell? ⟨l', 2, none⟩ = some (ptr l) ∧ (∀ j, j ≠ 2 → w'.cell? ⟨l', j, none⟩ = w.cell? ⟨l', j, none⟩) ∧ (∀ j, w'.frozen? ⟨l', j, none⟩ = w.frozen? ⟨l', j, none⟩) ∧
    Keeps (fun k => k = b ∨ k = l' ∨ k = M) w w' ∧ (∀ j, j ≠ o → j ≠ o + 1 → j ≠ o + 2 → w'.cell? ⟨b, j, none⟩ = w.cell? ⟨b, j, none⟩) ∧ (∀ j, w'.frozen? ⟨b, j, none⟩ = w.frozen? ⟨b, j, none⟩)

theorem nil46 (w : World) : (binOp .eql 46 (.map none) (.map none)).run Ybaf.prog w = .ok (.bool true) w := by kernel_rfl
theorem some46 (b : Nat) (w : World) : (binOp .eql 46 (.map (some b)) (.map none)).run Ybaf.prog w = .ok (.bool false) w := by kernel_rfl
theorem nil56 (w : World) : (binOp .eql 56 (.map none) (.map none)).run Ybaf.prog w = .ok (.bool true) w := by kernel_rfl
theorem some56 (b : Nat) (w : World) : (binOp .eql 56 (.map (some b)) (.map none)).run Ybaf.prog w = .ok (.bool false) w := by kernel_rfl
theorem nil52 (w : World) : (binOp .eql 52 (.map none) (.map none)).run Ybaf.prog w = .ok (.bool true) w := by kernel_rfl
theorem some52 (b : Nat) (w : World) : (binOp .eql 52 (.map (some b)) (.map none)).run Ybaf.prog w = .ok (.bool false) w := by kernel_rfl

theorem mapAt_made' {W : World} {n : Nat} (h : W.heap.size = n) : MapAt (W.alloc (.map #[] 0)) n 0 (fun _ => none) := by rw [← h]; exact mapAt_made W
theorem grown_frozen {w w' : World} {row : Option Nat} (h : w.grownBy w' row) {p : Addr} (hp : p.block < w.heap.size) (hr : some p.block ≠ row) : w'.frozen? p = w.frozen? p := World.frozen?_of_block (h.block _ hp hr)

set_option maxHeartbeats 1000000 in
set_option maxRecDepth 100000 in
theorem add0_13 (b o v : Nat) (w : World) (s : ByteArray) (hs : s.size ≤ maxLen) (h0 : w.cell? ⟨b, o, none⟩ = some (.pointer none)) (h1 : w.cell? ⟨b, o + 1, none⟩ = some (.pointer none)) (h2 : w.cell? ⟨b, o + 2, none⟩ = some (.map none)) (hf : ∀ j, w.frozen? ⟨b, j, none⟩ = false) :
    Calls Ybaf.prog 13 #[.pointer (some ⟨b, o, none⟩), .string s, .pointer (some ⟨v, 0, none⟩)] w fun e w' => e = .returned (.tuple #[]) ∧ Added0 b o s v w w' := by
  have hmm := @run_makeMap Ybaf.prog
  have hn1 := nil46
  have hn2 := some46
  have hf0 := hf o
  have hf1 := hf (o + 1)
  have hf2 := hf (o + 2)
  have hb : b < w.heap.size := World.block_lt_of_cell? w _ h0
  have z1 : b < w.heap.size + 1 := by omega
  have z2 : b < w.heap.size + 1 + 1 := by omega
  go_enter Ybaf.func13, Ybaf.ntmps13
  go_wp2_with (first | (at_mapUpdate; refine wpList_mapStore rfl _ _ _ 46 rfl 45 Ybaf.underlying46 (w.heap.size + 1) 0 (fun _ => none) s (ptr w.heap.size) rfl rfl rfl (mapAt_made' (by simp)) hs rfl (by unfold maxLen; omega) ?_; intro w1 hm1 hg1))
  go_end0
  obtain ⟨W, hW⟩ : ∃ W, W = ((((w.setCell ⟨b, o, none⟩ (.pointer (some ⟨w.heap.size, 0, none⟩))).setCell ⟨b, o + 1, none⟩ (.pointer (some ⟨w.heap.size, 0, none⟩))).setCell ⟨b, o + 2, none⟩ (.map (some (w.heap.size + 1)))).alloc (.cells #[.pointer (some ⟨v, 0, none⟩), .pointer none, .pointer none] 115)).alloc (.map #[] 0) := ⟨_, rfl⟩
  rw [← hW] at hg1
  have hsz : W.heap.size = w.heap.size + 2 := by rw [hW]; simp
  have old : ∀ p : Addr, p.block < w.heap.size + 1 → w1.cell? p = W.cell? p := fun p hp => World.cell?_of_block (hg1.block _ (by omega) (by intro e; injection e; omega))
  have oldf : ∀ p : Addr, p.block < w.heap.size + 1 → w1.frozen? p = W.frozen? p := fun p hp => grown_frozen hg1 (by omega) (by intro e; injection e; omega)
  refine ⟨rfl, w.heap.size, w.heap.size + 1, Nat.le_refl _, by omega, by omega, ?_, ?_, ?_, hm1, ?_, ?_, ?_, fun j => ?_, ?_, fun j j0 j1 j2 => ?_, fun j => ?_⟩
  · rw [old _ (by exact z1), hW]; unfold ptr; go_simp
  · rw [old _ (by exact z1), hW]; unfold ptr; go_simp
  · rw [old _ (by exact z1), hW]; go_simp
  · rw [old _ (by show w.heap.size < _; omega), hW]; unfold ptr; go_simp
  · rw [old _ (by show w.heap.size < _; omega), hW]; go_simp
  · rw [old _ (by show w.heap.size < _; omega), hW]; go_simp
  · rw [oldf _ (by show w.heap.size < _; omega), hW]; simp [go_sem]
  · have hk : Keeps (fun k => k = b) w W := by
      rw [hW]
      exact ((((Keeps.setCell (S := fun k => k = b) (p := ⟨b, o + 2, none⟩) (Keeps.setCell (S := fun k => k = b) (p := ⟨b, o + 1, none⟩) (Keeps.setCell (S := fun k => k = b) (p := ⟨b, o, none⟩) (Keeps.refl _ w) rfl _) rfl _) rfl _).alloc _).alloc _))
    exact hk.grown hg1 (fun k e => Or.inr (by cases e; omega))
  · rw [old _ (by exact z1), hW]
    rw [World.cell?_alloc_past _ _ _ (by simpa using z1), World.cell?_alloc_past _ _ _ (by simpa using hb), cell_set_ne (Or.inr (Ne.symm j2)), cell_set_ne (Or.inr (Ne.symm j1)), cell_set_ne (Or.inr (Ne.symm j0))]
  · rw [oldf _ (by exact z1), hW]
    rw [World.frozen?_alloc_past _ _ _ (by simpa using z1), World.frozen?_alloc_past _ _ _ (by simpa using hb), World.frozen?_setCell, World.frozen?_setCell, World.frozen?_setCell]

set_option maxHeartbeats 1000000 in
set_option maxRecDepth 100000 in
theorem add0_17 (b o v : Nat) (w : World) (s : ByteArray) (hs : s.size ≤ maxLen) (h0 : w.cell? ⟨b, o, none⟩ = some (.pointer none)) (h1 : w.cell? ⟨b, o + 1, none⟩ = some (.pointer none)) (h2 : w.cell? ⟨b, o + 2, none⟩ = some (.map none)) (hf : ∀ j, w.frozen? ⟨b, j, none⟩ = false) :
    Calls Ybaf.prog 17 #[.pointer (some ⟨b, o, none⟩), .string s, .pointer (some ⟨v, 0, none⟩)] w fun e w' => e = .returned (.tuple #[]) ∧ Added0 b o s v w w' := by
  have hmm := @run_makeMap Ybaf.prog
  have hn1 := nil56
  have hn2 := some56
  have hf0 := hf o
  have hf1 := hf (o + 1)
  have hf2 := hf (o + 2)
  have hb : b < w.heap.size := World.block_lt_of_cell? w _ h0
  have z1 : b < w.heap.size + 1 := by omega
  have z2 : b < w.heap.size + 1 + 1 := by omega
  go_enter Ybaf.func17, Ybaf.ntmps17
  go_wp2_with (first | (at_mapUpdate; refine wpList_mapStore rfl _ _ _ 56 rfl 55 Ybaf.underlying56 (w.heap.size + 1) 0 (fun _ => none) s (ptr w.heap.size) rfl rfl rfl (mapAt_made' (by simp)) hs rfl (by unfold maxLen; omega) ?_; intro w1 hm1 hg1))
  go_end0
  obtain ⟨W, hW⟩ : ∃ W, W = ((((w.setCell ⟨b, o, none⟩ (.pointer (some ⟨w.heap.size, 0, none⟩))).setCell ⟨b, o + 1, none⟩ (.pointer (some ⟨w.heap.size, 0, none⟩))).setCell ⟨b, o + 2, none⟩ (.map (some (w.heap.size + 1)))).alloc (.cells #[.pointer (some ⟨v, 0, none⟩), .pointer none, .pointer none] 120)).alloc (.map #[] 0) := ⟨_, rfl⟩
  rw [← hW] at hg1
  have hsz : W.heap.size = w.heap.size + 2 := by rw [hW]; simp
  have old : ∀ p : Addr, p.block < w.heap.size + 1 → w1.cell? p = W.cell? p := fun p hp => World.cell?_of_block (hg1.block _ (by omega) (by intro e; injection e; omega))
  have oldf : ∀ p : Addr, p.block < w.heap.size + 1 → w1.frozen? p = W.frozen? p := fun p hp => grown_frozen hg1 (by omega) (by intro e; injection e; omega)
  refine ⟨rfl, w.heap.size, w.heap.size + 1, Nat.le_refl _, by omega, by omega, ?_, ?_, ?_, hm1, ?_, ?_, ?_, fun j => ?_, ?_, fun j j0 j1 j2 => ?_, fun j => ?_⟩
  · rw [old _ (by exact z1), hW]; unfold ptr; go_simp
  · rw [old _ (by exact z1), hW]; unfold ptr; go_simp
  · rw [old _ (by exact z1), hW]; go_simp
  · rw [old _ (by show w.heap.size < _; omega), hW]; unfold ptr; go_simp
  · rw [old _ (by show w.heap.size < _; omega), hW]; go_simp
  · rw [old _ (by show w.heap.size < _; omega), hW]; go_simp
  · rw [oldf _ (by show w.heap.size < _; omega), hW]; simp [go_sem]
  · have hk : Keeps (fun k => k = b) w W := by
      rw [hW]
      exact ((((Keeps.setCell (S := fun k => k = b) (p := ⟨b, o + 2, none⟩) (Keeps.setCell (S := fun k => k = b) (p := ⟨b, o + 1, none⟩) (Keeps.setCell (S := fun k => k = b) (p := ⟨b, o, none⟩) (Keeps.refl _ w) rfl _) rfl _) rfl _).alloc _).alloc _))
    exact hk.grown hg1 (fun k e => Or.inr (by cases e; omega))
  · rw [old _ (by exact z1), hW]
    rw [World.cell?_alloc_past _ _ _ (by simpa using z1), World.cell?_alloc_past _ _ _ (by simpa using hb), cell_set_ne (Or.inr (Ne.symm j2)), cell_set_ne (Or.inr (Ne.symm j1)), cell_set_ne (Or.inr (Ne.symm j0))]
  · rw [oldf _ (by exact z1), hW]
    rw [World.frozen?_alloc_past _ _ _ (by simpa using z1), World.frozen?_alloc_past _ _ _ (by simpa using hb), World.frozen?_setCell, World.frozen?_setCell, World.frozen?_setCell]

set_option maxHeartbeats 1000000 in
set_option maxRecDepth 100000 in
theorem add0_18 (b o v : Nat) (w : World) (s : ByteArray) (hs : s.size ≤ maxLen) (h0 : w.cell? ⟨b, o, none⟩ = some (.pointer none)) (h1 : w.cell? ⟨b, o + 1, none⟩ = some (.pointer none)) (h2 : w.cell? ⟨b, o + 2, none⟩ = some (.map none)) (hf : ∀ j, w.frozen? ⟨b, j, none⟩ = false) :
    Calls Ybaf.prog 18 #[.pointer (some ⟨b, o, none⟩), .string s, .pointer (some ⟨v, 0, none⟩)] w fun e w' => e = .returned (.tuple #[]) ∧ Added0 b o s v w w' := by
  have hmm := @run_makeMap Ybaf.prog
  have hn1 := nil52
  have hn2 := some52
  have hf0 := hf o
  have hf1 := hf (o + 1)
  have hf2 := hf (o + 2)
  have hb : b < w.heap.size := World.block_lt_of_cell? w _ h0
  have z1 : b < w.heap.size + 1 := by omega
  have z2 : b < w.heap.size + 1 + 1 := by omega
  go_enter Ybaf.func18, Ybaf.ntmps18
  go_wp2_with (first | (at_mapUpdate; refine wpList_mapStore rfl _ _ _ 52 rfl 51 Ybaf.underlying52 (w.heap.size + 1) 0 (fun _ => none) s (ptr w.heap.size) rfl rfl rfl (mapAt_made' (by simp)) hs rfl (by unfold maxLen; omega) ?_; intro w1 hm1 hg1))
  go_end0
  obtain ⟨W, hW⟩ : ∃ W, W = ((((w.setCell ⟨b, o, none⟩ (.pointer (some ⟨w.heap.size, 0, none⟩))).setCell ⟨b, o + 1, none⟩ (.pointer (some ⟨w.heap.size, 0, none⟩))).setCell ⟨b, o + 2, none⟩ (.map (some (w.heap.size + 1)))).alloc (.cells #[.pointer (some ⟨v, 0, none⟩), .pointer none, .pointer none] 123)).alloc (.map #[] 0) := ⟨_, rfl⟩
  rw [← hW] at hg1
  have hsz : W.heap.size = w.heap.size + 2 := by rw [hW]; simp
  have old : ∀ p : Addr, p.block < w.heap.size + 1 → w1.cell? p = W.cell? p := fun p hp => World.cell?_of_block (hg1.block _ (by omega) (by intro e; injection e; omega))
  have oldf : ∀ p : Addr, p.block < w.heap.size + 1 → w1.frozen? p = W.frozen? p := fun p hp => grown_frozen hg1 (by omega) (by intro e; injection e; omega)
  refine ⟨rfl, w.heap.size, w.heap.size + 1, Nat.le_refl _, by omega, by omega, ?_, ?_, ?_, hm1, ?_, ?_, ?_, fun j => ?_, ?_, fun j j0 j1 j2 => ?_, fun j => ?_⟩
  · rw [old _ (by exact z1), hW]; unfold ptr; go_simp
  · rw [old _ (by exact z1), hW]; unfold ptr; go_simp
  · rw [old _ (by exact z1), hW]; go_simp
  · rw [old _ (by show w.heap.size < _; omega), hW]; unfold ptr; go_simp
  · rw [old _ (by show w.heap.size < _; omega), hW]; go_simp
  · rw [old _ (by show w.heap.size < _; omega), hW]; go_simp
  · rw [oldf _ (by show w.heap.size < _; omega), hW]; simp [go_sem]
  · have hk : Keeps (fun k => k = b) w W := by
      rw [hW]
      exact ((((Keeps.setCell (S := fun k => k = b) (p := ⟨b, o + 2, none⟩) (Keeps.setCell (S := fun k => k = b) (p := ⟨b, o + 1, none⟩) (Keeps.setCell (S := fun k => k = b) (p := ⟨b, o, none⟩) (Keeps.refl _ w) rfl _) rfl _) rfl _).alloc _).alloc _))
    exact hk.grown hg1 (fun k e => Or.inr (by cases e; omega))
  · rw [old _ (by exact z1), hW]
    rw [World.cell?_alloc_past _ _ _ (by simpa using z1), World.cell?_alloc_past _ _ _ (by simpa using hb), cell_set_ne (Or.inr (Ne.symm j2)), cell_set_ne (Or.inr (Ne.symm j1)), cell_set_ne (Or.inr (Ne.symm j0))]
  · rw [oldf _ (by exact z1), hW]
    rw [World.frozen?_alloc_past _ _ _ (by simpa using z1), World.frozen?_alloc_past _ _ _ (by simpa using hb), World.frozen?_setCell, World.frozen?_setCell, World.frozen?_setCell]

set_option maxHeartbeats 1000000 in
set_option maxRecDepth 100000 in
theorem addS_13 (b o l' M n v : Nat) (f : ByteArray → Option Value) (u : Value) (w : World) (s : ByteArray) (hs : s.size ≤ maxLen) (hn : n < maxLen) (h1 : w.cell? ⟨b, o + 1, none⟩ = some (ptr l')) (h2 : w.cell? ⟨b, o + 2, none⟩ = some (.map (some M))) (hm : MapAt w M n f) (hfs : f s = none) (hl2 : w.cell? ⟨l', 2, none⟩ = some u) (hf : ∀ j, w.frozen? ⟨b, j, none⟩ = false) (hlf : ∀ j, w.frozen? ⟨l', j, none⟩ = false) (hbl : b ≠ l') :
    Calls Ybaf.prog 13 #[.pointer (some ⟨b, o, none⟩), .string s, .pointer (some ⟨v, 0, none⟩)] w fun e w' => e = .returned (.tuple #[]) ∧ AddedS b o l' M n f s v w w' := by
  unfold ptr at h1
  have hn2 := some46
  have hf1 := hf (o + 1)
  have hf2 := hlf 2
  have hb : b < w.heap.size := World.block_lt_of_cell? w _ h1
  have hl : l' < w.heap.size := World.block_lt_of_cell? w _ hl2
  have hM : M < w.heap.size := hm.lt
  have z1 : b < w.heap.size + 1 := by omega
  have z2 : l' < w.heap.size + 1 := by omega
  have hMb : M ≠ b := fun e => by subst e; obtain ⟨D, ⟨es, clock, hh, _⟩, _⟩ := hm; simp [World.cell?, hh] at h1
  have hMl : M ≠ l' := fun e => by subst e; obtain ⟨D, ⟨es, clock, hh, _⟩, _⟩ := hm; simp [World.cell?, hh] at hl2
  obtain ⟨W, hW⟩ : ∃ W, W = ((w.setCell ⟨l', 2, none⟩ (.pointer (some ⟨w.heap.size, 0, none⟩))).setCell ⟨b, o + 1, none⟩ (.pointer (some ⟨w.heap.size, 0, none⟩))).alloc (.cells #[.pointer (some ⟨v, 0, none⟩), .pointer (some ⟨l', 0, none⟩), .pointer none] 115) := ⟨_, rfl⟩
  have hk : Keeps (fun k => k = b ∨ k = l') w W := by
    rw [hW]
    exact (Keeps.setCell (S := fun k => k = b ∨ k = l') (p := ⟨b, o + 1, none⟩) (Keeps.setCell (S := fun k => k = b ∨ k = l') (p := ⟨l', 2, none⟩) (Keeps.refl _ w) (Or.inr rfl) _) (Or.inl rfl) _).alloc _
  have hmW : MapAt W M n f := hm.of_block (hk.2.2.2.2 M hM (fun e => by rcases e with e | e; exact hMb e; exact hMl e))
  have hsz : W.heap.size = w.heap.size + 1 := by rw [hW]; simp
  have hbl2 : l' ≠ b := Ne.symm hbl
  clear hm
  go_enter Ybaf.func13, Ybaf.ntmps13
  go_wp2_with (first | (at_mapUpdate; rw [← hW]; refine wpList_mapStore rfl _ _ _ 46 rfl 45 Ybaf.underlying46 M n f s (ptr w.heap.size) rfl rfl rfl hmW hs hfs hn ?_; intro w1 hm1 hg1))
  go_end0
  have old : ∀ p : Addr, p.block < w.heap.size + 1 → p.block ≠ M → w1.cell? p = W.cell? p := fun p hp hpM => World.cell?_of_block (hg1.block _ (by omega) (by intro e; injection e with e; exact hpM e))
  have oldf : ∀ p : Addr, p.block < w.heap.size + 1 → p.block ≠ M → w1.frozen? p = W.frozen? p := fun p hp hpM => grown_frozen hg1 (by omega) (by intro e; injection e with e; exact hpM e)
  have hMn : w.heap.size ≠ M := by omega
  refine ⟨rfl, w.heap.size, Nat.le_refl _, ?_, ?_, ?_, hm1, ?_, ?_, ?_, fun j => ?_, ?_, fun j j2 => ?_, fun j => ?_, ?_, fun j j0 j1 j2 => ?_, fun j => ?_⟩
  · rw [old _ (by exact z1) (Ne.symm hMb), hW, World.cell?_alloc_past _ _ _ (by simpa using hb), cell_set_ne (Or.inr (by omega)), cell_set_ne (Or.inl hbl2)]
  · rw [old _ (by exact z1) (Ne.symm hMb), hW]; unfold ptr; go_simp
  · rw [old _ (by exact z1) (Ne.symm hMb), hW, World.cell?_alloc_past _ _ _ (by simpa using hb), cell_set_ne (Or.inr (by omega)), cell_set_ne (Or.inl hbl2)]; exact h2
  · rw [old _ (by show w.heap.size < _; omega) hMn, hW]; unfold ptr; go_simp
  · rw [old _ (by show w.heap.size < _; omega) hMn, hW]; unfold ptr; go_simp
  · rw [old _ (by show w.heap.size < _; omega) hMn, hW]; go_simp
  · rw [oldf _ (by show w.heap.size < _; omega) hMn, hW]; simp [go_sem]
  · rw [old _ (by exact z2) (Ne.symm hMl), hW, World.cell?_alloc_past _ _ _ (by simpa using hl), cell_set_ne (Or.inl hbl)]
    exact World.cell?_setCell_same _ _ _ hl2
  · rw [old _ (by exact z2) (Ne.symm hMl), hW, World.cell?_alloc_past _ _ _ (by simpa using hl), cell_set_ne (Or.inl hbl), cell_set_ne (Or.inr (Ne.symm j2))]
  · rw [oldf _ (by exact z2) (Ne.symm hMl), hW, World.frozen?_alloc_past _ _ _ (by simpa using hl), World.frozen?_setCell, World.frozen?_setCell]
  · exact (hk.mono fun k _ e => by rcases e with e | e; exact Or.inl e; exact Or.inr (Or.inl e)).grown hg1 (fun k e => Or.inl (Or.inr (Or.inr (by injection e with e; exact e.symm))))
  · rw [old _ (by exact z1) (Ne.symm hMb), hW, World.cell?_alloc_past _ _ _ (by simpa using hb), cell_set_ne (Or.inr (Ne.symm j1)), cell_set_ne (Or.inl hbl2)]
  · rw [oldf _ (by exact z1) (Ne.symm hMb), hW, World.frozen?_alloc_past _ _ _ (by simpa using hb), World.frozen?_setCell, World.frozen?_setCell]

set_option maxHeartbeats 1000000 in
set_option maxRecDepth 100000 in
theorem addS_17 (b o l' M n v : Nat) (f : ByteArray → Option Value) (u : Value) (w : World) (s : ByteArray) (hs : s.size ≤ maxLen) (hn : n < maxLen) (h1 : w.cell? ⟨b, o + 1, none⟩ = some (ptr l')) (h2 : w.cell? ⟨b, o + 2, none⟩ = some (.map (some M))) (hm : MapAt w M n f) (hfs : f s = none) (hl2 : w.cell? ⟨l', 2, none⟩ = some u) (hf : ∀ j, w.frozen? ⟨b, j, none⟩ = false) (hlf : ∀ j, w.frozen? ⟨l', j, none⟩ = false) (hbl : b ≠ l') :
    Calls Ybaf.prog 17 #[.pointer (some ⟨b, o, none⟩), .string s, .pointer (some ⟨v, 0, none⟩)] w fun e w' => e = .returned (.tuple #[]) ∧ AddedS b o l' M n f s v w w' := by
  unfold ptr at h1
  have hn2 := some56
  have hf1 := hf (o + 1)
  have hf2 := hlf 2
  have hb : b < w.heap.size := World.block_lt_of_cell? w _ h1
  have hl : l' < w.heap.size := World.block_lt_of_cell? w _ hl2
  have hM : M < w.heap.size := hm.lt
  have z1 : b < w.heap.size + 1 := by omega
  have z2 : l' < w.heap.size + 1 := by omega
  have hMb : M ≠ b := fun e => by subst e; obtain ⟨D, ⟨es, clock, hh, _⟩, _⟩ := hm; simp [World.cell?, hh] at h1
  have hMl : M ≠ l' := fun e => by subst e; obtain ⟨D, ⟨es, clock, hh, _⟩, _⟩ := hm; simp [World.cell?, hh] at hl2
  obtain ⟨W, hW⟩ : ∃ W, W = ((w.setCell ⟨l', 2, none⟩ (.pointer (some ⟨w.heap.size, 0, none⟩))).setCell ⟨b, o + 1, none⟩ (.pointer (some ⟨w.heap.size, 0, none⟩))).alloc (.cells #[.pointer (some ⟨v, 0, none⟩), .pointer (some ⟨l', 0, none⟩), .pointer none] 120) := ⟨_, rfl⟩
  have hk : Keeps (fun k => k = b ∨ k = l') w W := by
    rw [hW]
    exact (Keeps.setCell (S := fun k => k = b ∨ k = l') (p := ⟨b, o + 1, none⟩) (Keeps.setCell (S := fun k => k = b ∨ k = l') (p := ⟨l', 2, none⟩) (Keeps.refl _ w) (Or.inr rfl) _) (Or.inl rfl) _).alloc _
  have hmW : MapAt W M n f := hm.of_block (hk.2.2.2.2 M hM (fun e => by rcases e with e | e; exact hMb e; exact hMl e))
  have hsz : W.heap.size = w.heap.size + 1 := by rw [hW]; simp
  have hbl2 : l' ≠ b := Ne.symm hbl
  clear hm
  go_enter Ybaf.func17, Ybaf.ntmps17
  go_wp2_with (first | (at_mapUpdate; rw [← hW]; refine wpList_mapStore rfl _ _ _ 56 rfl 55 Ybaf.underlying56 M n f s (ptr w.heap.size) rfl rfl rfl hmW hs hfs hn ?_; intro w1 hm1 hg1))
  go_end0
  have old : ∀ p : Addr, p.block < w.heap.size + 1 → p.block ≠ M → w1.cell? p = W.cell? p := fun p hp hpM => World.cell?_of_block (hg1.block _ (by omega) (by intro e; injection e with e; exact hpM e))
  have oldf : ∀ p : Addr, p.block < w.heap.size + 1 → p.block ≠ M → w1.frozen? p = W.frozen? p := fun p hp hpM => grown_frozen hg1 (by omega) (by intro e; injection e with e; exact hpM e)
  have hMn : w.heap.size ≠ M := by omega
  refine ⟨rfl, w.heap.size, Nat.le_refl _, ?_, ?_, ?_, hm1, ?_, ?_, ?_, fun j => ?_, ?_, fun j j2 => ?_, fun j => ?_, ?_, fun j j0 j1 j2 => ?_, fun j => ?_⟩
  · rw [old _ (by exact z1) (Ne.symm hMb), hW, World.cell?_alloc_past _ _ _ (by simpa using hb), cell_set_ne (Or.inr (by omega)), cell_set_ne (Or.inl hbl2)]
  · rw [old _ (by exact z1) (Ne.symm hMb), hW]; unfold ptr; go_simp
  · rw [old _ (by exact z1) (Ne.symm hMb), hW, World.cell?_alloc_past _ _ _ (by simpa using hb), cell_set_ne (Or.inr (by omega)), cell_set_ne (Or.inl hbl2)]; exact h2
  · rw [old _ (by show w.heap.size < _; omega) hMn, hW]; unfold ptr; go_simp
  · rw [old _ (by show w.heap.size < _; omega) hMn, hW]; unfold ptr; go_simp
  · rw [old _ (by show w.heap.size < _; omega) hMn, hW]; go_simp
  · rw [oldf _ (by show w.heap.size < _; omega) hMn, hW]; simp [go_sem]
  · rw [old _ (by exact z2) (Ne.symm hMl), hW, World.cell?_alloc_past _ _ _ (by simpa using hl), cell_set_ne (Or.inl hbl)]
    exact World.cell?_setCell_same _ _ _ hl2
  · rw [old _ (by exact z2) (Ne.symm hMl), hW, World.cell?_alloc_past _ _ _ (by simpa using hl), cell_set_ne (Or.inl hbl), cell_set_ne (Or.inr (Ne.symm j2))]
  · rw [oldf _ (by exact z2) (Ne.symm hMl), hW, World.frozen?_alloc_past _ _ _ (by simpa using hl), World.frozen?_setCell, World.frozen?_setCell]
  · exact (hk.mono fun k _ e => by rcases e with e | e; exact Or.inl e; exact Or.inr (Or.inl e)).grown hg1 (fun k e => Or.inl (Or.inr (Or.inr (by injection e with e; exact e.symm))))
  · rw [old _ (by exact z1) (Ne.symm hMb), hW, World.cell?_alloc_past _ _ _ (by simpa using hb), cell_set_ne (Or.inr (Ne.symm j1)), cell_set_ne (Or.inl hbl2)]
  · rw [oldf _ (by exact z1) (Ne.symm hMb), hW, World.frozen?_alloc_past _ _ _ (by simpa using hb), World.frozen?_setCell, World.frozen?_setCell]

set_option maxHeartbeats 400000 in
set_option maxRecDepth 100000 in
/-- get, the key there. -/
theorem get_20 (b o M n : Nat) (f : ByteArray → Option Value) (w : World) (s : ByteArray) (hs : s.size ≤ maxLen) (h2 : w.cell? ⟨b, o + 2, none⟩ = some (.map (some M))) (hm : MapAt w M n f) (l v : Nat) (hl : f s = some (ptr l)) (hv : w.cell? ⟨l, 0, none⟩ = some (ptr v)) :
    Calls Ybaf.prog 20 #[.pointer (some ⟨b, o, none⟩), .string s] w fun e w' => e = .returned (.tuple #[ptr v, .bool true]) ∧ w' = w := by
  have hlk := (hm.look Ybaf.underlying52 (z := .pointer none) (by kernel_rfl) hs).1
  rw [hl] at hlk
  unfold ptr at hlk hv ⊢
  simp only [Option.getD_some, Option.isSome_some] at hlk
  go_enter Ybaf.func20, Ybaf.ntmps20
  go_wp2
  exact bodyPost_ret (v := .tuple #[.pointer (some ⟨v, 0, none⟩), .bool true]) (by simp [results, Ybaf.results20, go_sem]) rfl ⟨rfl, rfl⟩

set_option maxHeartbeats 400000 in
set_option maxRecDepth 100000 in
/-- get, the key there. -/
theorem get_29 (b o M n : Nat) (f : ByteArray → Option Value) (w : World) (s : ByteArray) (hs : s.size ≤ maxLen) (h2 : w.cell? ⟨b, o + 2, none⟩ = some (.map (some M))) (hm : MapAt w M n f) (l v : Nat) (hl : f s = some (ptr l)) (hv : w.cell? ⟨l, 0, none⟩ = some (ptr v)) :
    Calls Ybaf.prog 29 #[.pointer (some ⟨b, o, none⟩), .string s] w fun e w' => e = .returned (.tuple #[ptr v, .bool true]) ∧ w' = w := by
  have hlk := (hm.look Ybaf.underlying56 (z := .pointer none) (by kernel_rfl) hs).1
  rw [hl] at hlk
  unfold ptr at hlk hv ⊢
  simp only [Option.getD_some, Option.isSome_some] at hlk
  go_enter Ybaf.func29, Ybaf.ntmps29
  go_wp2
  exact bodyPost_ret (v := .tuple #[.pointer (some ⟨v, 0, none⟩), .bool true]) (by simp [results, Ybaf.results29, go_sem]) rfl ⟨rfl, rfl⟩

set_option maxHeartbeats 400000 in
set_option maxRecDepth 100000 in
/-- get, the key there. -/
theorem get_43 (b o M n : Nat) (f : ByteArray → Option Value) (w : World) (s : ByteArray) (hs : s.size ≤ maxLen) (h2 : w.cell? ⟨b, o + 2, none⟩ = some (.map (some M))) (hm : MapAt w M n f) (l v : Nat) (hl : f s = some (ptr l)) (hv : w.cell? ⟨l, 0, none⟩ = some (ptr v)) :
    Calls Ybaf.prog 43 #[.pointer (some ⟨b, o, none⟩), .string s] w fun e w' => e = .returned (.tuple #[ptr v, .bool true]) ∧ w' = w := by
  have hlk := (hm.look Ybaf.underlying46 (z := .pointer none) (by kernel_rfl) hs).1
  rw [hl] at hlk
  unfold ptr at hlk hv ⊢
  simp only [Option.getD_some, Option.isSome_some] at hlk
  go_enter Ybaf.func43, Ybaf.ntmps43
  go_wp2
  exact bodyPost_ret (v := .tuple #[.pointer (some ⟨v, 0, none⟩), .bool true]) (by simp [results, Ybaf.results43, go_sem]) rfl ⟨rfl, rfl⟩

set_option maxHeartbeats 400000 in
set_option maxRecDepth 100000 in
/-- get, the key not there. -/
theorem miss_20 (b o M n : Nat) (f : ByteArray → Option Value) (w : World) (s : ByteArray) (hs : s.size ≤ maxLen) (h2 : w.cell? ⟨b, o + 2, none⟩ = some (.map (some M))) (hm : MapAt w M n f) (hl : f s = none) :
    Calls Ybaf.prog 20 #[.pointer (some ⟨b, o, none⟩), .string s] w fun e w' => e = .returned (.tuple #[.pointer none, .bool false]) ∧ w' = w := by
  have hlk := (hm.look Ybaf.underlying52 (z := .pointer none) (by kernel_rfl) hs).1
  rw [hl] at hlk
  simp only [Option.getD_none, Option.isSome_none] at hlk
  go_enter Ybaf.func20, Ybaf.ntmps20
  go_wp2
  exact bodyPost_ret (v := .tuple #[.pointer none, .bool false]) (by simp [results, Ybaf.results20, go_sem]) rfl ⟨rfl, rfl⟩

theorem lookNil52 (s : ByteArray) (w : World) : (Instr.lookup 52 (.map none) (.string s) true).run Ybaf.prog w = .ok (.tuple #[.pointer none, .bool false]) w := by kernel_rfl

set_option maxHeartbeats 400000 in
set_option maxRecDepth 100000 in
/-- get, no map made. -/
theorem none_20 (b o : Nat) (w : World) (s : ByteArray) (h2 : w.cell? ⟨b, o + 2, none⟩ = some (.map none)) :
    Calls Ybaf.prog 20 #[.pointer (some ⟨b, o, none⟩), .string s] w fun e w' => e = .returned (.tuple #[.pointer none, .bool false]) ∧ w' = w := by
  have hlk := lookNil52
  go_enter Ybaf.func20, Ybaf.ntmps20
  go_wp2
  exact bodyPost_ret (v := .tuple #[.pointer none, .bool false]) (by simp [results, Ybaf.results20, go_sem]) rfl ⟨rfl, rfl⟩

set_option maxHeartbeats 400000 in
set_option maxRecDepth 100000 in
/-- get, the key not there. -/
theorem miss_29 (b o M n : Nat) (f : ByteArray → Option Value) (w : World) (s : ByteArray) (hs : s.size ≤ maxLen) (h2 : w.cell? ⟨b, o + 2, none⟩ = some (.map (some M))) (hm : MapAt w M n f) (hl : f s = none) :
    Calls Ybaf.prog 29 #[.pointer (some ⟨b, o, none⟩), .string s] w fun e w' => e = .returned (.tuple #[.pointer none, .bool false]) ∧ w' = w := by
  have hlk := (hm.look Ybaf.underlying56 (z := .pointer none) (by kernel_rfl) hs).1
  rw [hl] at hlk
  simp only [Option.getD_none, Option.isSome_none] at hlk
  go_enter Ybaf.func29, Ybaf.ntmps29
  go_wp2
  exact bodyPost_ret (v := .tuple #[.pointer none, .bool false]) (by simp [results, Ybaf.results29, go_sem]) rfl ⟨rfl, rfl⟩

theorem lookNil56 (s : ByteArray) (w : World) : (Instr.lookup 56 (.map none) (.string s) true).run Ybaf.prog w = .ok (.tuple #[.pointer none, .bool false]) w := by kernel_rfl

set_option maxHeartbeats 400000 in
set_option maxRecDepth 100000 in
/-- get, no map made. -/
theorem none_29 (b o : Nat) (w : World) (s : ByteArray) (h2 : w.cell? ⟨b, o + 2, none⟩ = some (.map none)) :
    Calls Ybaf.prog 29 #[.pointer (some ⟨b, o, none⟩), .string s] w fun e w' => e = .returned (.tuple #[.pointer none, .bool false]) ∧ w' = w := by
  have hlk := lookNil56
  go_enter Ybaf.func29, Ybaf.ntmps29
  go_wp2
  exact bodyPost_ret (v := .tuple #[.pointer none, .bool false]) (by simp [results, Ybaf.results29, go_sem]) rfl ⟨rfl, rfl⟩

theorem lenNil46 (ty : TypeId) (w : World) : (Builtin.len_ #[46] ty #[.map none]).run Ybaf.prog w = .ok (.int .i64 0) w := by kernel_rfl

set_option maxHeartbeats 400000 in
set_option maxRecDepth 100000 in
/-- len. -/
theorem len_21 (b o n : Nat) (m : Option Nat) (f : ByteArray → Option Value) (w : World) (h2 : w.cell? ⟨b, o + 2, none⟩ = some (.map m)) (hm : (m = none ∧ n = 0) ∨ ∃ M, m = some M ∧ MapAt w M n f) :
    Calls Ybaf.prog 21 #[.pointer (some ⟨b, o, none⟩)] w fun e w' => e = .returned (.int .i64 n) ∧ w' = w := by
  rcases hm with ⟨rfl, rfl⟩ | ⟨M, rfl, hm⟩
  · have hlk := lenNil46
    go_enter Ybaf.func21, Ybaf.ntmps21
    go_wp2
    go_ret
    exact ⟨rfl, rfl⟩
  · have hlk := fun ty => hm.len Ybaf.underlying46 ty
    clear hm
    go_enter Ybaf.func21, Ybaf.ntmps21
    go_wp2
    go_ret
    exact ⟨rfl, rfl⟩

theorem lenNil56 (ty : TypeId) (w : World) : (Builtin.len_ #[56] ty #[.map none]).run Ybaf.prog w = .ok (.int .i64 0) w := by kernel_rfl

set_option maxHeartbeats 400000 in
set_option maxRecDepth 100000 in
/-- len. -/
theorem len_22 (b o n : Nat) (m : Option Nat) (f : ByteArray → Option Value) (w : World) (h2 : w.cell? ⟨b, o + 2, none⟩ = some (.map m)) (hm : (m = none ∧ n = 0) ∨ ∃ M, m = some M ∧ MapAt w M n f) :
    Calls Ybaf.prog 22 #[.pointer (some ⟨b, o, none⟩)] w fun e w' => e = .returned (.int .i64 n) ∧ w' = w := by
  rcases hm with ⟨rfl, rfl⟩ | ⟨M, rfl, hm⟩
  · have hlk := lenNil56
    go_enter Ybaf.func22, Ybaf.ntmps22
    go_wp2
    go_ret
    exact ⟨rfl, rfl⟩
  · have hlk := fun ty => hm.len Ybaf.underlying56 ty
    clear hm
    go_enter Ybaf.func22, Ybaf.ntmps22
    go_wp2
    go_ret
    exact ⟨rfl, rfl⟩
end Go.Proofs.YbulkldcFmt
