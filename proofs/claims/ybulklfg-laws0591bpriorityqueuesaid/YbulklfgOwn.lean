import Derived.Test.YbulklfgRows
import Derived.Test.YbulklfgPlain
import Derived.WalkKit
import Derived.WalkSpells
import Derived.WalkSmall
import Derived.Deep.RegionLaw
import Derived.Deep.RegionHeld3
import Derived.Deep.QuietTactic
import Derived.BigQuiet
import Derived.BigRegion
import Derived.Deep.DeepCutAuto
import Derived.Deep.LoopGhost
namespace Go.Proofs.Ybulklfg
open Go.RowKit
set_option linter.unusedVariables false

theorem Yba.mLess (x : Value) (w : World) : (method 261 66 x "Less").run Yba.prog w = .ok (17, x) w := by kernel_rfl
theorem Yba.mTime (x : Value) (w : World) : (method 261 66 x "Time").run Yba.prog w = .ok (48, x) w := by kernel_rfl

theorem hide {p : Prop} (h : p) : Hid p := h
theorem Yba.info66 : (Yba.prog.info? 66).map (fun i => (i.zero, i.size, i.bytes)) = some (some (.agg #[.int .i64 0, .int .i64 0]), 2, 16) := by kernel_rfl

/-- The cells of a row of items. -/
def flat (l : List Item) : List Value := l.flatMap fun p => [.int .i64 p.1, .int .i64 p.2]
theorem flat_nil : flat [] = [] := rfl
theorem flat_cons (p : Item) (l : List Item) : flat (p :: l) = .int .i64 p.1 :: .int .i64 p.2 :: flat l := rfl
theorem flat_length (l : List Item) : (flat l).length = l.length * 2 := by
  induction l with
  | nil => rfl
  | cons p l ih => rw [flat_cons]; simp [ih]; omega
theorem flat_append (l m : List Item) : flat (l ++ m) = flat l ++ flat m := by simp [flat]
theorem flat_get0 {l : List Item} {j : Nat} (h : j < l.length) : (flat l)[j * 2]? = some (.int .i64 (itemAt l j).1) := by
  induction l generalizing j with
  | nil => simp at h
  | cons p l ih =>
    rw [flat_cons]
    cases j with
    | zero => simp [itemAt]
    | succ j =>
      have e : (j + 1) * 2 = j * 2 + 1 + 1 := by omega
      rw [e, List.getElem?_cons_succ, List.getElem?_cons_succ, ih (by simpa using h)]
      simp [itemAt]
theorem flat_get1 {l : List Item} {j : Nat} (h : j < l.length) : (flat l)[j * 2 + 1]? = some (.int .i64 (itemAt l j).2) := by
  induction l generalizing j with
  | nil => simp at h
  | cons p l ih =>
    rw [flat_cons]
    cases j with
    | zero => simp [itemAt]
    | succ j =>
      have e : (j + 1) * 2 + 1 = j * 2 + 1 + 1 + 1 := by omega
      rw [e, List.getElem?_cons_succ, List.getElem?_cons_succ, ih (by simpa using h)]
      simp [itemAt]
theorem flat_set {l : List Item} {j : Nat} (p : Item) : flat (l.set j p) = ((flat l).set (j * 2) (.int .i64 p.1)).set (j * 2 + 1) (.int .i64 p.2) := by
  induction l generalizing j with
  | nil => simp [flat_nil]
  | cons q l ih =>
    cases j with
    | zero => simp [flat_cons]
    | succ j =>
      have e : (j + 1) * 2 = j * 2 + 1 + 1 := by omega
      rw [List.set_cons_succ, flat_cons, flat_cons, e, List.set_cons_succ, List.set_cons_succ, List.set_cons_succ, List.set_cons_succ, ih]
theorem flat_take (l : List Item) (n : Nat) : flat (l.take n) = (flat l).take (n * 2) := by
  induction l generalizing n with
  | nil => simp [flat_nil]
  | cons q l ih =>
    cases n with
    | zero => simp [flat_nil]
    | succ n =>
      have e : (n + 1) * 2 = n * 2 + 1 + 1 := by omega
      rw [List.take_succ_cons, flat_cons, flat_cons, e, List.take_succ_cons, List.take_succ_cons, ih]
theorem flat_one (l : List Item) : ∀ u ∈ flat l, u.oneCell' = true := by
  intro u hu
  obtain ⟨p, _, h⟩ := List.mem_flatMap.1 hu
  simp at h
  rcases h with rfl | rfl <;> rfl

/-- The slice v owns the items l. -/
def Owns (w : World) (B : Nat) (v : Value) (l : List Item) : Prop := w.ownsRow B 66 2 v l.length (flat l)

/-- All but the blocks of S is as it was. -/
def Keeps (S : Nat → Prop) (w w' : World) : Prop := w'.os = w.os ∧ w'.tape = w.tape ∧ w'.output = w.output ∧ w.heap.size ≤ w'.heap.size ∧ ∀ k, k < w.heap.size → ¬ S k → w'.heap[k]? = w.heap[k]?

theorem Keeps.refl (S : Nat → Prop) (w : World) : Keeps S w w := ⟨rfl, rfl, rfl, Nat.le_refl _, fun _ _ _ => rfl⟩
theorem Keeps.trans {S : Nat → Prop} {a b c : World} (h : Keeps S a b) (k : Keeps S b c) : Keeps S a c :=
  ⟨k.1.trans h.1, k.2.1.trans h.2.1, k.2.2.1.trans h.2.2.1, Nat.le_trans h.2.2.2.1 k.2.2.2.1, fun j hj hs => (k.2.2.2.2 j (Nat.lt_of_lt_of_le hj h.2.2.2.1) hs).trans (h.2.2.2.2 j hj hs)⟩
theorem Keeps.mono {S T : Nat → Prop} {w w' : World} (h : Keeps S w w') (hst : ∀ k, k < w.heap.size → S k → T k) : Keeps T w w' := ⟨h.1, h.2.1, h.2.2.1, h.2.2.2.1, fun k hk ht => h.2.2.2.2 k hk fun hs => ht (hst k hk hs)⟩
theorem Keeps.size {S : Nat → Prop} {w w' : World} (h : Keeps S w w') : w.heap.size ≤ w'.heap.size := h.2.2.2.1
theorem Keeps.drew {S : Nat → Prop} {a w : World} (h : Keeps S a w) : Keeps S a w.drew := h
theorem Keeps.drewN {S : Nat → Prop} {a w : World} (h : Keeps S a w) (n : Nat) : Keeps S a (w.drewN n) := h.trans ⟨rfl, rfl, rfl, Nat.le_refl _, fun _ _ _ => rfl⟩
theorem Keeps.alloc {S : Nat → Prop} {a w : World} (h : Keeps S a w) (o : Obj) : Keeps S a (w.alloc o) :=
  h.trans ⟨rfl, rfl, rfl, by simp, fun k hk _ => Below.heap_alloc w o k hk⟩
theorem Keeps.setCell {S : Nat → Prop} {a w : World} (h : Keeps S a w) {p : Addr} (hp : S p.block) (u : Value) : Keeps S a (w.setCell p u) :=
  h.trans ⟨rfl, rfl, rfl, by simp, fun k _ hs => Below.heap_setCell w p u k fun e => hs (e ▸ hp)⟩
/-- A store into a block that was not there at the start. -/
theorem Keeps.setNew {S : Nat → Prop} {a w : World} (h : Keeps S a w) {p : Addr} (hp : a.heap.size ≤ p.block) (u : Value) : Keeps S a (w.setCell p u) := by
  refine ⟨h.1, h.2.1, h.2.2.1, by simpa using h.size, fun k hk hs => ?_⟩
  rw [Below.heap_setCell w p u k (by omega)]
  exact h.2.2.2.2 k hk hs
theorem Keeps.grown {S : Nat → Prop} {a w w' : World} {row : Option Nat} (h : Keeps S a w) (hg : w.grownBy w' row) (hr : ∀ k, row = some k → S k ∨ a.heap.size ≤ k) : Keeps S a w' := by
  refine ⟨hg.os.trans h.1, hg.tape.trans h.2.1, hg.output.trans h.2.2.1, Nat.le_trans h.size hg.size, fun k hk hs => ?_⟩
  have hk' : k < w.heap.size := Nat.lt_of_lt_of_le hk h.size
  rw [hg.block k hk' (fun e => by
    rcases hr k e.symm with h1 | h1
    · exact hs h1
    · omega)]
  exact h.2.2.2.2 k hk hs
theorem Keeps.below {S : Nat → Prop} {w w' : World} {B : Nat} (h : Keeps S w w') (hB : B ≤ w.heap.size) (hs : ∀ k, k < w.heap.size → S k → B ≤ k) : Below B w w' :=
  ⟨h.1, h.2.1, h.2.2.1, h.size, fun k hk => h.2.2.2.2 k (by omega) fun hsk => by have := hs k (by omega) hsk; omega⟩
theorem Keeps.of_below {S : Nat → Prop} {w w' : World} (h : Below w.heap.size w w') : Keeps S w w' := ⟨h.os, h.tape, h.output, h.size, fun k hk _ => h.block k hk⟩
theorem Keeps.cell {S : Nat → Prop} {w w' : World} (h : Keeps S w w') {p : Addr} (hp : p.block < w.heap.size) (hs : ¬ S p.block) : w'.cell? p = w.cell? p := World.cell?_of_block (h.2.2.2.2 _ hp hs)
theorem Keeps.frozen {S : Nat → Prop} {w w' : World} (h : Keeps S w w') {p : Addr} (hp : p.block < w.heap.size) (hs : ¬ S p.block) : w'.frozen? p = w.frozen? p := World.frozen?_of_block (h.2.2.2.2 _ hp hs)

theorem Owns.nil (w : World) (B : Nat) : Owns w B (.slice none 0 0) [] := World.ownsRow_nil _ _ _ _
theorem Owns.lt {w : World} {B : Nat} {v : Value} {l : List Item} (h : Owns w B v l) : ∀ k, v.ownBlock = some k → B ≤ k ∧ k < w.heap.size := World.ownsRow.lt h
theorem Owns.form {w : World} {B : Nat} {v : Value} {l : List Item} (h : Owns w B v l) : ∃ a cap, v = .slice a l.length cap ∧ cap ≤ maxLen ∧ (0 < l.length → ∃ g, a = some ⟨g, 0, none⟩) := by
  obtain ⟨_, ⟨rfl, h0⟩ | ⟨g, cap, cur, rfl, _, _, _, hm, _⟩⟩ := h
  · exact ⟨none, 0, by rw [h0], by unfold maxLen; omega, fun h => by omega⟩
  · exact ⟨_, _, rfl, hm, fun _ => ⟨g, rfl⟩⟩
theorem Owns.keep {w w' : World} {B : Nat} {v : Value} {l : List Item} {S : Nat → Prop} (h : Owns w B v l) (hk : Keeps S w w') (hs : ∀ k, v.ownBlock = some k → ¬ S k) : Owns w' B v l := by
  obtain ⟨h1, h2 | ⟨g, cap, cur, rfl, a, b, c⟩⟩ := h
  · exact ⟨h1, Or.inl h2⟩
  · refine ⟨h1, Or.inr ⟨g, cap, cur, rfl, a, ?_, c⟩⟩
    have hg : g < w.heap.size := by
      rcases Nat.lt_or_ge g w.heap.size with h | h
      · exact h
      · rw [Array.getElem?_eq_none h] at b; cases b
    rw [hk.2.2.2.2 g hg (hs g rfl)]
    exact b
theorem Owns.cell0 {w : World} {B g n cap : Nat} {l : List Item} (h : Owns w B (.slice (some ⟨g, 0, none⟩) n cap) l) (hn : n = l.length) {j : Nat} (hj : j < l.length) : w.cell? ⟨g, j * 2, none⟩ = some (.int .i64 (itemAt l j).1) := by
  subst hn
  rw [World.ownsRow.cellAt h (j * 2) (by omega), flat_get0 hj]
theorem Owns.cell1 {w : World} {B g n cap : Nat} {l : List Item} (h : Owns w B (.slice (some ⟨g, 0, none⟩) n cap) l) (hn : n = l.length) {j : Nat} (hj : j < l.length) : w.cell? ⟨g, j * 2 + 1, none⟩ = some (.int .i64 (itemAt l j).2) := by
  subst hn
  rw [World.ownsRow.cellAt h (j * 2 + 1) (by omega), flat_get1 hj]
theorem Owns.unfrozen {w : World} {B g n cap : Nat} {l : List Item} (h : Owns w B (.slice (some ⟨g, 0, none⟩) n cap) l) (hn : n = l.length) (j : Nat) : w.frozen? ⟨g, j, none⟩ = false := by
  subst hn
  exact World.ownsRow.frozenAt h j
/-- An item stored. -/
theorem Owns.store {w : World} {B g n cap : Nat} {l : List Item} (h : Owns w B (.slice (some ⟨g, 0, none⟩) n cap) l) (hn : n = l.length) {j : Nat} (hj : j < l.length) (p : Item) :
    Owns ((w.setCell ⟨g, j * 2, none⟩ (.int .i64 p.1)).setCell ⟨g, j * 2 + 1, none⟩ (.int .i64 p.2)) B (.slice (some ⟨g, 0, none⟩) n cap) (l.set j p) := by
  subst hn
  unfold Owns
  rw [flat_set, List.length_set]
  exact (World.ownsRow.stored (World.ownsRow.stored h (j * 2) _).1 (j * 2 + 1) _).1

theorem two_at {w : World} {g : Nat} {a b : Value} (h0 : w.cell? ⟨g, 0, none⟩ = some a) (h1 : w.cell? ⟨g, 1, none⟩ = some b) : ∀ j u, [a, b][j]? = some u → w.cell? ((⟨g, 0, none⟩ : Addr).add j) = some u := by
  intro j u hj
  match j, hj with
  | 0, hj => simp at hj; subst hj; simpa [Addr.add] using h0
  | 1, hj => simp at hj; subst hj; simpa [Addr.add] using h1

theorem ownsRow_base {w : World} {b b' : Nat} {e : TypeId} {size : Nat} {v : Value} {n : Nat} {xs : List Value} (h : w.ownsRow b e size v n xs) (hb : b' ≤ b) : w.ownsRow b' e size v n xs := by
  obtain ⟨h1, h2 | ⟨g, cap, cur, h3, h4, h5⟩⟩ := h
  · exact ⟨h1, Or.inl h2⟩
  · exact ⟨h1, Or.inr ⟨g, cap, cur, h3, Nat.le_trans hb h4, h5⟩⟩

/-- What an append of one item leaves. -/
def Grew (w w1 : World) (B : Nat) (v : Value) (l : List Item) (p : Item) (g cap : Nat) : Prop :=
  Owns w1 B (.slice (some ⟨g, 0, none⟩) (l.length + 1) cap) (l ++ [p]) ∧ w.grownBy w1 v.ownBlock ∧ (v.ownBlock = some g ∨ w.heap.size ≤ g) ∧ B ≤ g ∧ cap ≤ maxLen

theorem run_push (w : World) (ty : TypeId) (B : Nat) (v : Value) (l : List Item) (ho : Owns w B v l) (q : Nat) (p : Item) (c0 : w.cell? ⟨q, 0, none⟩ = some (.int .i64 p.1)) (c1 : w.cell? ⟨q, 1, none⟩ = some (.int .i64 p.2)) (hn : l.length ≤ 4096) (hB : B ≤ w.heap.size) :
    ∃ g cap w1, (Builtin.append_ #[58, 58] ty #[v, .slice (some ⟨q, 0, none⟩) 1 1]).run Yba.prog w = .ok (.slice (some ⟨g, 0, none⟩) (l.length + 1) cap) w1 ∧ Grew w w1 B v l p g cap := by
  obtain ⟨i0, hi, hz0, hz1, hz2⟩ := info_parts Yba.info66
  have hone : ∀ u ∈ [Value.int .i64 p.1, Value.int .i64 p.2], u.oneCell' = true := by
    intro u hu
    simp at hu
    rcases hu with rfl | rfl <;> rfl
  have hfl : flat l ++ [.int .i64 p.1, .int .i64 p.2] = flat (l ++ [p]) := by rw [flat_append]; rfl
  have hll : (l ++ [p]).length = l.length + 1 := by simp
  -- the two ways in which a new row comes
  have grow : ∀ v' w', w'.ownsRow w.heap.size 66 2 v' (l.length + 1) (flat l ++ [.int .i64 p.1, .int .i64 p.2]) → ∃ g cap, v' = .slice (some ⟨g, 0, none⟩) (l.length + 1) cap ∧ Owns w' B v' (l ++ [p]) ∧ w.heap.size ≤ g ∧ cap ≤ maxLen := by
    intro v' w' h
    have h' : Owns w' B v' (l ++ [p]) := by
      unfold Owns
      rw [← hfl, hll]
      exact ownsRow_base h hB
    obtain ⟨_, ⟨_, h0⟩ | ⟨g, cap, cur, rfl, hg, _, _, hm, _⟩⟩ := h
    · omega
    · exact ⟨g, cap, rfl, h', hg, hm⟩
  obtain ⟨hx, ⟨rfl, h0⟩ | ⟨g, cap, cur, rfl, hBg, hgw, hnc, hm, hcs, htk⟩⟩ := id ho
  · have hl0 : l = [] := List.eq_nil_of_length_eq_zero h0
    subst hl0
    obtain ⟨v', w', hrun, r1, r2, _⟩ := run_append_own (P := Yba.prog) w w.heap.size 58 ty 66 i0 (.agg #[.int .i64 0, .int .i64 0]) 2 16 Yba.underlying58 hi hz0 hz1 hz2 rfl (by decide) (.slice none 0 0) 0 [] (World.ownsRow_nil w _ 66 2) ⟨q, 0, none⟩ 1 1 [.int .i64 p.1, .int .i64 p.2] rfl (two_at c0 c1) hone (by unfold maxLen; omega) (by omega) (Nat.le_refl _)
    obtain ⟨g, cap, rfl, ow, hg, hm⟩ := grow v' w' r1
    exact ⟨g, cap, w', hrun, ow, r2, Or.inr hg, Nat.le_trans hB hg, hm⟩
  · by_cases hr : l.length + 1 ≤ cap
    · obtain ⟨w', hrun, r1, r2⟩ := run_append_fits (P := Yba.prog) w B 58 ty 66 i0 2 Yba.underlying58 hi hz1 g l.length cap (flat l) ho ⟨q, 0, none⟩ 1 1 [.int .i64 p.1, .int .i64 p.2] rfl (two_at c0 c1) hone hr
      refine ⟨g, cap, w', hrun, ?_, r2, Or.inl rfl, hBg, hm⟩
      unfold Owns
      rw [← hfl, hll]
      exact r1
    · obtain ⟨v', w', hrun, r1, r2⟩ := run_append_arg_grows (P := Yba.prog) w 58 ty 66 i0 (.agg #[.int .i64 0, .int .i64 0]) 2 16 Yba.underlying58 hi hz0 hz1 hz2 rfl (by decide) ⟨g, 0, none⟩ l.length cap (flat l) (flat_length l) (World.ownsRow.cells ho rfl) ⟨q, 0, none⟩ 1 1 [.int .i64 p.1, .int .i64 p.2] rfl (two_at c0 c1) (by omega) (by unfold maxLen; omega) (by omega)
      obtain ⟨g', cap', rfl, ow, hg', hm'⟩ := grow v' w' r1
      refine ⟨g', cap', w', hrun, ow, ?_, Or.inr hg', Nat.le_trans hB hg', hm'⟩
      exact ⟨r2.os, r2.tape, r2.output, r2.size, fun k hk _ => r2.block k hk (by simp)⟩

theorem wp_push {w : World} {o : Oper} {a : Act} {K : Act → World → Prop} {Q : Exit → Act → World → Prop} (s x : Operand) (ho : o.op = .call { callee := .builtin .append, args := #[s, x], argTypes := #[58, 58] })
    (B : Nat) (v : Value) (l : List Item) (hs : a.eval s = v) (hown : Owns w B v l) (q : Nat) (p : Item) (hx : a.eval x = .slice (some ⟨q, 0, none⟩) 1 1) (c0 : w.cell? ⟨q, 0, none⟩ = some (.int .i64 p.1)) (c1 : w.cell? ⟨q, 1, none⟩ = some (.int .i64 p.2)) (hn : l.length ≤ 4096) (hB : B ≤ w.heap.size)
    (h : ∀ g cap w1, Grew w w1 B v l p g cap → K (a.put o.dst (.slice (some ⟨g, 0, none⟩) (l.length + 1) cap)) w1) : o.wp Yba.prog a w K Q := by
  obtain ⟨g, cap, w1, hr, h2⟩ := run_push w o.type B v l hown q p c0 c1 hn hB
  unfold Oper.wp execOp
  simp only [ho, resolve, invoke, builtin, Sem.run_bind, Sem.run_pure, Result.andThen_ok, List.map_toArray, List.map_cons, List.map_nil, hs, hx, hr]
  exact h g cap w1 h2

theorem step_push {ops : Array Oper} {w : World} {o : Oper} {a : Act} {K : Act → World → Prop} {Q : Exit → Act → World → Prop} {E : Prop} (hgd : o.guard = none) (s x : Operand) (ho : o.op = .call { callee := .builtin .append, args := #[s, x], argTypes := #[58, 58] })
    (B : Nat) (v : Value) (l : List Item) (hs : a.eval s = v) (hown : Owns w B v l) (q : Nat) (p : Item) (hx : a.eval x = .slice (some ⟨q, 0, none⟩) 1 1) (c0 : w.cell? ⟨q, 0, none⟩ = some (.int .i64 p.1)) (c1 : w.cell? ⟨q, 1, none⟩ = some (.int .i64 p.2)) (hn : l.length ≤ 4096) (hB : B ≤ w.heap.size)
    (h : ∀ g cap w1, Grew w w1 B v l p g cap → K (a.put o.dst (.slice (some ⟨g, 0, none⟩) (l.length + 1) cap)) w1) :
    if Region.wanted o (yielded ops a.tmps) = true then Oper.wp Yba.prog o a w K Q else E := by
  have hw : Region.wanted o (yielded ops a.tmps) = true := by simp [Region.wanted, hgd]
  rw [if_pos hw]
  exact wp_push s x ho B v l hs hown q p hx c0 c1 hn hB h

theorem wpList_push {ops : Array Oper} {rest : List Oper} {w : World} {o : Oper} {a : Act} {Q : Exit → Act → World → Prop} (hgd : o.guard = none) (s x : Operand) (ho : o.op = .call { callee := .builtin .append, args := #[s, x], argTypes := #[58, 58] })
    (B : Nat) (v : Value) (l : List Item) (hs : a.eval s = v) (hown : Owns w B v l) (q : Nat) (p : Item) (hx : a.eval x = .slice (some ⟨q, 0, none⟩) 1 1) (c0 : w.cell? ⟨q, 0, none⟩ = some (.int .i64 p.1)) (c1 : w.cell? ⟨q, 1, none⟩ = some (.int .i64 p.2)) (hn : l.length ≤ 4096) (hB : B ≤ w.heap.size)
    (h : ∀ g cap w1, Grew w w1 B v l p g cap → wpList Yba.prog ops Q rest (a.put o.dst (.slice (some ⟨g, 0, none⟩) (l.length + 1) cap)) w1) : wpList Yba.prog ops Q (o :: rest) a w :=
  wpList_plain hgd fun _ hK => wp_push s x ho B v l hs hown q p hx c0 c1 hn hB fun g cap w1 hg => hK _ _ (h g cap w1 hg)

/-- A cell behind a store into another block, or another place. -/
theorem cell_set_ne {w : World} {b o b' o' : Nat} {u : Value} (h : b ≠ b' ∨ o ≠ o') : (w.setCell ⟨b, o, none⟩ u).cell? ⟨b', o', none⟩ = w.cell? ⟨b', o', none⟩ := by
  apply World.cell?_setCell_other
  intro e
  cases e
  rcases h with h | h <;> exact h rfl

theorem Owns.setOther {w : World} {B : Nat} {v : Value} {l : List Item} (h : Owns w B v l) {a : Addr} (ha : ∀ k, v.ownBlock = some k → k ≠ a.block) (u : Value) : Owns (w.setCell a u) B v l :=
  h.keep (Keeps.setCell (S := fun k => k = a.block) (Keeps.refl _ w) (p := a) rfl u) ha

theorem Owns.alloc {w : World} {B : Nat} {v : Value} {l : List Item} (h : Owns w B v l) (o : Obj) : Owns (w.alloc o) B v l := World.ownsRow.alloc h o
end Go.Proofs.Ybulklfg
