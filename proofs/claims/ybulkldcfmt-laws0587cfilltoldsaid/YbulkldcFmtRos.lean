/-
  A roster as the law builds it: n entries under the keys key 0 .. key (n - 1).
-/
import Derived.Test.YbulkldcFmtAll
namespace Go.Proofs.YbulkldcFmt
open Go.RowKit
set_option linter.unusedVariables false

def lastP (n : Nat) (L : Nat → Nat) : Value := if n = 0 then .pointer none else ptr (L (n - 1))
def upd (V : Nat → Nat) (n v : Nat) (q : Nat) : Nat := if q = n then v else V q
theorem upd_same (V : Nat → Nat) (n v : Nat) : upd V n v n = v := if_pos rfl
theorem upd_ne (V : Nat → Nat) {n v q : Nat} (h : q ≠ n) : upd V n v q = V q := if_neg h

structure Ros (w : World) (b o n : Nat) (key : Nat → ByteArray) (m : Option Nat) (f : ByteArray → Option Value) (L V : Nat → Nat) (P : Nat → Prop) : Prop where
  c0 : w.cell? ⟨b, o, none⟩ = some (nextP n L 0)
  c1 : w.cell? ⟨b, o + 1, none⟩ = some (lastP n L)
  c2 : w.cell? ⟨b, o + 2, none⟩ = some (.map m)
  hm : (m = none ∧ n = 0) ∨ (0 < n ∧ ∃ M, m = some M ∧ MapAt w M n f)
  fs : ∀ j, j < n → f (key j) = some (ptr (L j))
  fn : ∀ j, n ≤ j → j < 8 → f (key j) = none
  l0 : ∀ j, j < n → w.cell? ⟨L j, 0, none⟩ = some (ptr (V j)) ∧ w.cell? ⟨L j, 2, none⟩ = some (nextP n L (j + 1))
  lf : ∀ j, j < n → ∀ i, w.frozen? ⟨L j, i, none⟩ = false
  inj : ∀ i j, i < n → j < n → L i = L j → i = j
  pl : ∀ j, j < n → P (L j)
  pm : ∀ M, m = some M → P M ∧ ∀ j, j < n → L j ≠ M
  pb : ∀ x, P x → x < w.heap.size ∧ x ≠ b

theorem Ros.map {w : World} {b o n : Nat} {key : Nat → ByteArray} {m : Option Nat} {f : ByteArray → Option Value} {L V : Nat → Nat} {P : Nat → Prop} (h : Ros w b o n key m f L V P) : (m = none ∧ n = 0) ∨ ∃ M, m = some M ∧ MapAt w M n f := by
  rcases h.hm with h1 | ⟨_, h1⟩
  · exact Or.inl h1
  · exact Or.inr h1

theorem Ros.keeps {w w' : World} {b o n : Nat} {key : Nat → ByteArray} {m : Option Nat} {f : ByteArray → Option Value} {L V : Nat → Nat} {P S : Nat → Prop} (h : Ros w b o n key m f L V P) (hk : Keeps S w w') (hP : ∀ x, P x → ¬ S x)
    (hc : ∀ j, j = o ∨ j = o + 1 ∨ j = o + 2 → w'.cell? ⟨b, j, none⟩ = w.cell? ⟨b, j, none⟩) : Ros w' b o n key m f L V P :=
  { c0 := (hc o (Or.inl rfl)).trans h.c0, c1 := (hc _ (Or.inr (Or.inl rfl))).trans h.c1, c2 := (hc _ (Or.inr (Or.inr rfl))).trans h.c2,
    hm := by
      rcases h.hm with h1 | ⟨h0, M, h1, h2⟩
      · exact Or.inl h1
      · exact Or.inr ⟨h0, M, h1, h2.of_block (hk.2.2.2.2 M h2.lt (hP _ (h.pm M h1).1))⟩,
    fs := h.fs, fn := h.fn,
    l0 := fun j hj => by
      have hp := h.pl j hj
      have hlt := (h.pb _ hp).1
      exact ⟨(hk.cell (p := ⟨L j, 0, none⟩) hlt (hP _ hp)).trans (h.l0 j hj).1, (hk.cell (p := ⟨L j, 2, none⟩) hlt (hP _ hp)).trans (h.l0 j hj).2⟩,
    lf := fun j hj i => by
      have hp := h.pl j hj
      exact (hk.frozen (p := ⟨L j, i, none⟩) (h.pb _ hp).1 (hP _ hp)).trans (h.lf j hj i),
    inj := h.inj, pl := h.pl, pm := h.pm, pb := fun x hx => ⟨Nat.lt_of_lt_of_le (h.pb x hx).1 hk.size, (h.pb x hx).2⟩ }

/-- An empty roster. -/
theorem ros_empty {w : World} {b o : Nat} {key : Nat → ByteArray} (h0 : w.cell? ⟨b, o, none⟩ = some (.pointer none)) (h1 : w.cell? ⟨b, o + 1, none⟩ = some (.pointer none)) (h2 : w.cell? ⟨b, o + 2, none⟩ = some (.map none)) : Ros w b o 0 key none (fun _ => none) (fun _ => 0) (fun _ => 0) (fun _ => False) :=
  { c0 := h0, c1 := h1, c2 := h2, hm := Or.inl ⟨rfl, rfl⟩, fs := fun _ h => absurd h (by omega), fn := fun _ _ _ => rfl, l0 := fun _ h => absurd h (by omega), lf := fun _ h => absurd h (by omega), inj := fun _ _ h => absurd h (by omega), pl := fun _ h => absurd h (by omega), pm := fun _ h => (by cases h), pb := fun _ h => h.elim }

/-- What one add gives. -/
def RosAdded (b o n : Nat) (key : Nat → ByteArray) (V : Nat → Nat) (P : Nat → Prop) (v : Nat) (w w' : World) : Prop :=
  ∃ m' f' L' P', Ros w' b o (n + 1) key m' f' L' (upd V n v) P' ∧ (∀ x, P x → P' x) ∧ (∀ x, P' x → P x ∨ w.heap.size ≤ x) ∧ Keeps (fun x => x = b ∨ P x) w w' ∧ (∀ j, j ≠ o → j ≠ o + 1 → j ≠ o + 2 → w'.cell? ⟨b, j, none⟩ = w.cell? ⟨b, j, none⟩) ∧ ∀ j, w'.frozen? ⟨b, j, none⟩ = w.frozen? ⟨b, j, none⟩

theorem Ros.added0 {w w' : World} {b o v : Nat} {key : Nat → ByteArray} {m : Option Nat} {f : ByteArray → Option Value} {L V : Nat → Nat} {P : Nat → Prop} (h : Ros w b o 0 key m f L V P) (hkey : ∀ i j, i < 8 → j < 8 → key i = key j → i = j) (ha : Added0 b o (key 0) v w w') : RosAdded b o 0 key V P v w w' := by
  obtain ⟨l, M, hl, hM, hlM, a0, a1, a2, am, b0, b1, b2, bf, hk, hc, hf⟩ := ha
  have hb : b < w.heap.size := World.block_lt_of_cell? w ⟨b, o, none⟩ h.c0
  have hlw : l < w'.heap.size := World.block_lt_of_cell? w' ⟨l, 0, none⟩ b0
  refine ⟨some M, _, (fun _ => l), (fun x => P x ∨ x = l ∨ x = M), ⟨a0, a1, a2, Or.inr ⟨by omega, M, rfl, am⟩, ?_, ?_, ?_, ?_, ?_, ?_, ?_, ?_⟩, fun x hx => Or.inl hx, ?_, hk.mono fun x _ e => Or.inl e, hc, hf⟩
  · intro j hj
    obtain rfl : j = 0 := by omega
    unfold fput
    rw [if_pos rfl]
  · intro j hj h8
    unfold fput
    rw [if_neg (fun e => by have := hkey _ _ h8 (by omega) e; omega)]
  · intro j hj
    obtain rfl : j = 0 := by omega
    exact ⟨b0, b2⟩
  · intro j hj i
    exact bf i
  · intro i j hi hj _
    omega
  · intro j hj
    exact Or.inr (Or.inl rfl)
  · intro M' e
    injection e with e
    subst e
    exact ⟨Or.inr (Or.inr rfl), fun j hj => hlM⟩
  · intro x hx
    rcases hx with hx | rfl | rfl
    · exact ⟨Nat.lt_of_lt_of_le (h.pb x hx).1 hk.size, (h.pb x hx).2⟩
    · exact ⟨hlw, by omega⟩
    · exact ⟨am.lt, by omega⟩
  · intro x hx
    rcases hx with hx | rfl | rfl
    · exact Or.inl hx
    · exact Or.inr hl
    · exact Or.inr hM

theorem Ros.addedS {w w' : World} {b o n v M : Nat} {key : Nat → ByteArray} {f : ByteArray → Option Value} {L V : Nat → Nat} {P : Nat → Prop} (h : Ros w b o n key (some M) f L V P) (hn : 0 < n) (hn8 : n < 8) (hkey : ∀ i j, i < 8 → j < 8 → key i = key j → i = j) (ha : AddedS b o (L (n - 1)) M n f (key n) v w w') : RosAdded b o n key V P v w w' := by
  obtain ⟨l, hl, a0, a1, a2, am, b0, b1, b2, bf, d2, dk, df, hk, hc, hf⟩ := ha
  have hb : b < w.heap.size := World.block_lt_of_cell? w ⟨b, o, none⟩ h.c0
  have hlw : l < w'.heap.size := World.block_lt_of_cell? w' ⟨l, 0, none⟩ b0
  have hLl : ∀ j, j < n → L j < w.heap.size := fun j hj => (h.pb _ (h.pl j hj)).1
  have hMl : M < w.heap.size := (h.pb _ (h.pm M rfl).1).1
  refine ⟨some M, _, upd L n l, (fun x => P x ∨ x = l), ⟨?_, ?_, a2, Or.inr ⟨by omega, M, rfl, am⟩, ?_, ?_, ?_, ?_, ?_, ?_, ?_, ?_⟩, fun x hx => Or.inl hx, ?_, hk.mono fun x _ e => ?_, hc, hf⟩
  · rw [a0, h.c0]
    unfold nextP
    rw [if_pos hn, if_pos (by omega), upd_ne L (by omega)]
  · rw [a1]
    unfold lastP
    rw [if_neg (by omega), Nat.add_sub_cancel, upd_same]
  · intro j hj
    unfold fput
    by_cases e : j = n
    · subst e
      rw [if_pos rfl, upd_same]
    · rw [if_neg (fun e' => e (hkey _ _ (by omega) hn8 e')), upd_ne L e]
      exact h.fs j (by omega)
  · intro j hj h8
    unfold fput
    rw [if_neg (fun e => by have := hkey _ _ h8 hn8 e; omega)]
    exact h.fn j (by omega) h8
  · intro j hj
    by_cases e : j = n
    · subst e
      rw [upd_same, upd_same]
      refine ⟨b0, ?_⟩
      rw [b2]
      unfold nextP
      rw [if_neg (by omega)]
    · rw [upd_ne L e, upd_ne V e]
      have hj' : j < n := by omega
      obtain ⟨c0, c2⟩ := h.l0 j hj'
      by_cases e2 : j = n - 1
      · subst e2
        refine ⟨(dk 0 (by omega)).trans c0, ?_⟩
        rw [d2]
        unfold nextP ptr
        rw [if_pos (by omega), show n - 1 + 1 = n by omega, upd_same]
      · have hne : ¬ (L j = b ∨ L j = L (n - 1) ∨ L j = M) := by
          rintro (e3 | e3 | e3)
          · exact (h.pb _ (h.pl j hj')).2 e3
          · exact e2 (h.inj _ _ hj' (by omega) e3)
          · exact (h.pm M rfl).2 j hj' e3
        refine ⟨(hk.cell (p := ⟨L j, 0, none⟩) (hLl j hj') hne).trans c0, ?_⟩
        rw [hk.cell (p := ⟨L j, 2, none⟩) (hLl j hj') hne, c2]
        unfold nextP
        rw [if_pos (by omega), if_pos (by omega), upd_ne L (by omega)]
  · intro j hj i
    by_cases e : j = n
    · subst e
      rw [upd_same]
      exact bf i
    · rw [upd_ne L e]
      have hj' : j < n := by omega
      by_cases e2 : j = n - 1
      · subst e2
        exact (df i).trans (h.lf _ hj' i)
      · have hne : ¬ (L j = b ∨ L j = L (n - 1) ∨ L j = M) := by
          rintro (e3 | e3 | e3)
          · exact (h.pb _ (h.pl j hj')).2 e3
          · exact e2 (h.inj _ _ hj' (by omega) e3)
          · exact (h.pm M rfl).2 j hj' e3
        exact (hk.frozen (p := ⟨L j, i, none⟩) (hLl j hj') hne).trans (h.lf j hj' i)
  · intro i j hi hj e
    by_cases ei : i = n
    · by_cases ej : j = n
      · omega
      · subst ei
        rw [upd_same, upd_ne L ej] at e
        have := hLl j (by omega)
        omega
    · by_cases ej : j = n
      · subst ej
        rw [upd_same, upd_ne L ei] at e
        have := hLl i (by omega)
        omega
      · rw [upd_ne L ei, upd_ne L ej] at e
        exact h.inj i j (by omega) (by omega) e
  · intro j hj
    by_cases e : j = n
    · subst e
      rw [upd_same]
      exact Or.inr rfl
    · rw [upd_ne L e]
      exact Or.inl (h.pl j (by omega))
  · intro M' e
    injection e with e
    subst e
    refine ⟨Or.inl (h.pm M rfl).1, fun j hj => ?_⟩
    by_cases e : j = n
    · subst e
      rw [upd_same]
      omega
    · rw [upd_ne L e]
      exact (h.pm M rfl).2 j (by omega)
  · intro x hx
    rcases hx with hx | rfl
    · exact ⟨Nat.lt_of_lt_of_le (h.pb x hx).1 hk.size, (h.pb x hx).2⟩
    · exact ⟨hlw, by omega⟩
  · intro x hx
    rcases hx with hx | rfl
    · exact Or.inl hx
    · exact Or.inr hl
  · rcases e with rfl | rfl | rfl
    · exact Or.inl rfl
    · exact Or.inr (h.pl _ (by omega))
    · exact Or.inr (h.pm _ rfl).1

theorem ros_add_17 {w : World} {b o n : Nat} {m : Option Nat} {f : ByteArray → Option Value} {L V : Nat → Nat} {P : Nat → Prop} (v : Nat) (h : Ros w b o n ak m f L V P) (hn8 : n < 8) (hf : ∀ j, w.frozen? ⟨b, j, none⟩ = false) :
    Calls Ybaf.prog 17 #[.pointer (some ⟨b, o, none⟩), .string (ak n), .pointer (some ⟨v, 0, none⟩)] w fun e w' => e = .returned (.tuple #[]) ∧ RosAdded b o n ak V P v w w' := by
  rcases h.hm with ⟨rfl, rfl⟩ | ⟨h0, M, rfl, hmp⟩
  · refine (add0_17 b o v w (ak 0) (size_ak 0) h.c0 h.c1 h.c2 hf).mono ?_
    rintro e w' ⟨rfl, ha⟩
    exact ⟨rfl, h.added0 (fun i j hi hj e => ak_inj hi hj e) ha⟩
  · have hl1 := h.c1
    unfold lastP at hl1
    rw [if_neg (by omega)] at hl1
    refine (addS_17 b o (L (n - 1)) M n v f _ w (ak n) (size_ak n) (by unfold maxLen; omega) hl1 h.c2 hmp (h.fn n (Nat.le_refl _) hn8) (h.l0 (n - 1) (by omega)).2 hf (h.lf (n - 1) (by omega)) (fun e => (h.pb _ (h.pl (n - 1) (by omega))).2 e.symm)).mono ?_
    rintro e w' ⟨rfl, ha⟩
    exact ⟨rfl, h.addedS h0 hn8 (fun i j hi hj e => ak_inj hi hj e) ha⟩

theorem ros_add_13 {w : World} {b o n : Nat} {m : Option Nat} {f : ByteArray → Option Value} {L V : Nat → Nat} {P : Nat → Prop} (v : Nat) (h : Ros w b o n wk m f L V P) (hn8 : n < 8) (hf : ∀ j, w.frozen? ⟨b, j, none⟩ = false) :
    Calls Ybaf.prog 13 #[.pointer (some ⟨b, o, none⟩), .string (wk n), .pointer (some ⟨v, 0, none⟩)] w fun e w' => e = .returned (.tuple #[]) ∧ RosAdded b o n wk V P v w w' := by
  rcases h.hm with ⟨rfl, rfl⟩ | ⟨h0, M, rfl, hmp⟩
  · refine (add0_13 b o v w (wk 0) (size_wk 0) h.c0 h.c1 h.c2 hf).mono ?_
    rintro e w' ⟨rfl, ha⟩
    exact ⟨rfl, h.added0 (fun i j hi hj e => wk_inj hi hj e) ha⟩
  · have hl1 := h.c1
    unfold lastP at hl1
    rw [if_neg (by omega)] at hl1
    refine (addS_13 b o (L (n - 1)) M n v f _ w (wk n) (size_wk n) (by unfold maxLen; omega) hl1 h.c2 hmp (h.fn n (Nat.le_refl _) hn8) (h.l0 (n - 1) (by omega)).2 hf (h.lf (n - 1) (by omega)) (fun e => (h.pb _ (h.pl (n - 1) (by omega))).2 e.symm)).mono ?_
    rintro e w' ⟨rfl, ha⟩
    exact ⟨rfl, h.addedS h0 hn8 (fun i j hi hj e => wk_inj hi hj e) ha⟩
end Go.Proofs.YbulkldcFmt
