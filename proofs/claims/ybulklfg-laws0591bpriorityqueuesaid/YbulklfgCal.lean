import Derived.Test.YbulklfgHeapPop
import Derived.Test.YbulklfgCalPlain
namespace Go.Proofs.Ybulklfg
open Go.RowKit
set_option linter.unusedVariables false
attribute [local go_sem] Yba.mLess Yba.mTime

/-! ### THE CALENDAR IN MEMORY. own: which block belongs to what: 0: the struct, 1: the ring, 2: the near heap's row, 3: the far heap's, 4 + i: bucket i's. -/
def Apart (own : Nat → Option Nat) : Prop := ∀ i j k, own i = some k → own j = some k → i = j
def Foot (own : Nat → Option Nat) (k : Nat) : Prop := ∃ i, own i = some k

def DaysAt (w : World) (B : Nat) (own : Nat → Option Nat) (dv : Value) (s : Nat) (days : Nat → List Item) : Prop :=
  (own 1 = none ∧ dv = .slice none 0 0 ∧ (∀ i, days i = []) ∧ ∀ i, own (4 + i) = none) ∨
  ∃ (D : Nat) (dvs : Nat → Value), own 1 = some D ∧ dv = .slice (some ⟨D, 0, none⟩) s s ∧ (∀ j, w.frozen? ⟨D, j, none⟩ = false) ∧ ∀ i, i < s → own (4 + i) = (dvs i).ownBlock ∧ w.cell? ⟨D, i, none⟩ = some (dvs i) ∧ Owns w B (dvs i) (days i)

def CalAt (w : World) (B c : Nat) (own : Nat → Option Nat) (now later : List Item) (today : Int) (s : Nat) (days : Nat → List Item) (inD : Nat) : Prop :=
  (∀ i k, own i = some k → B ≤ k ∧ k < w.heap.size) ∧ Apart own ∧ own 0 = some c ∧ (∀ j, w.frozen? ⟨c, j, none⟩ = false) ∧
  ∃ nv lv dv : Value, own 2 = nv.ownBlock ∧ own 3 = lv.ownBlock ∧ w.cell? ⟨c, 0, none⟩ = some nv ∧ w.cell? ⟨c, 1, none⟩ = some (.int .i64 today) ∧ w.cell? ⟨c, 2, none⟩ = some (.int .i64 s) ∧ w.cell? ⟨c, 3, none⟩ = some dv ∧
    w.cell? ⟨c, 4, none⟩ = some (.int .i64 inD) ∧ w.cell? ⟨c, 5, none⟩ = some lv ∧ Owns w B nv now ∧ Owns w B lv later ∧ DaysAt w B own dv s days

def Step (own own' : Nat → Option Nat) (w w' : World) : Prop := Keeps (Foot own) w w' ∧ ∀ i k, own' i = some k → Foot own k ∨ w.heap.size ≤ k

theorem Step.refl (own : Nat → Option Nat) (w : World) : Step own own w w := ⟨Keeps.refl _ _, fun i k h => Or.inl ⟨i, h⟩⟩
theorem Step.trans {o1 o2 o3 : Nat → Option Nat} {a b c : World} (h : Step o1 o2 a b) (k : Step o2 o3 b c) : Step o1 o3 a c := by
  refine ⟨⟨k.1.1.trans h.1.1, k.1.2.1.trans h.1.2.1, k.1.2.2.1.trans h.1.2.2.1, Nat.le_trans h.1.size k.1.size, fun j hj hs => ?_⟩, fun i j hj => ?_⟩
  · rw [k.1.2.2.2.2 j (Nat.lt_of_lt_of_le hj h.1.size) (fun hf => by
      obtain ⟨i, hi⟩ := hf
      rcases h.2 i j hi with h1 | h1
      · exact hs h1
      · omega)]
    exact h.1.2.2.2.2 j hj hs
  · rcases k.2 i j hj with ⟨i', h1⟩ | h1
    · exact h.2 i' j h1
    · exact Or.inr (Nat.le_trans h.1.size h1)
/-- New blocks alone. -/
theorem Step.below {own : Nat → Option Nat} {w w' : World} (h : Below w.heap.size w w') : Step own own w w' := ⟨Keeps.of_below h, fun i k h => Or.inl ⟨i, h⟩⟩

theorem DaysAt.keep {w w' : World} {B : Nat} {own own' : Nat → Option Nat} {dv : Value} {s : Nat} {days : Nat → List Item} {S : Nat → Prop} (h : DaysAt w B own dv s days) (hk : Keeps S w w') (hlt : ∀ i k, own i = some k → k < w.heap.size)
    (h1 : ∀ k, own 1 = some k → ¬ S k) (h4 : ∀ i k, own (4 + i) = some k → ¬ S k) (e1 : own' 1 = own 1) (e4 : ∀ i, own' (4 + i) = own (4 + i)) : DaysAt w' B own' dv s days := by
  rcases h with ⟨a, b, c, d⟩ | ⟨D, dvs, a, b, c, d⟩
  · exact Or.inl ⟨by rw [e1]; exact a, b, c, fun i => by rw [e4]; exact d i⟩
  · have hD := hlt 1 D a
    refine Or.inr ⟨D, dvs, by rw [e1]; exact a, b, fun j => ?_, fun i hi => ?_⟩
    · rw [hk.frozen (by exact hD) (h1 D a)]; exact c j
    · obtain ⟨x, y, z⟩ := d i hi
      refine ⟨by rw [e4]; exact x, ?_, z.keep hk fun k e => h4 i k (by rw [x]; exact e)⟩
      rw [hk.cell (by exact hD) (h1 D a)]
      exact y

/-- The calendar behind new blocks, and behind stores into blocks that are not its own. -/
theorem CalAt.keep {w w' : World} {B c : Nat} {own : Nat → Option Nat} {now later : List Item} {today : Int} {s : Nat} {days : Nat → List Item} {inD : Nat} {S : Nat → Prop} (h : CalAt w B c own now later today s days inD) (hk : Keeps S w w') (hS : ∀ i k, own i = some k → ¬ S k) :
    CalAt w' B c own now later today s days inD := by
  obtain ⟨hb, hap, h0, hf, nv, lv, dv, e2, e3, c0, c1, c2, c3, c4, c5, o1, o2, hd⟩ := h
  have hc := hb 0 c h0
  have cell : ∀ j, w'.cell? ⟨c, j, none⟩ = w.cell? ⟨c, j, none⟩ := fun j => hk.cell (by exact hc.2) (hS 0 c h0)
  refine ⟨fun i k e => ⟨(hb i k e).1, Nat.lt_of_lt_of_le (hb i k e).2 hk.size⟩, hap, h0, fun j => by rw [hk.frozen (by exact hc.2) (hS 0 c h0)]; exact hf j, nv, lv, dv, e2, e3, by rw [cell]; exact c0, by rw [cell]; exact c1, by rw [cell]; exact c2, by rw [cell]; exact c3, by rw [cell]; exact c4, by rw [cell]; exact c5,
    o1.keep hk fun k e => hS 2 k (by rw [e2]; exact e), o2.keep hk fun k e => hS 3 k (by rw [e3]; exact e), hd.keep hk (fun i k e => (hb i k e).2) (fun k e => hS 1 k e) (fun i k e => hS _ k e) rfl (fun _ => rfl)⟩

/-- own, the row of heap n (2: near, 3: far) another. -/
def own1 (own : Nat → Option Nat) (n : Nat) (b : Option Nat) : Nat → Option Nat := fun i => if i = n then b else own i
theorem own1_same (own : Nat → Option Nat) (n : Nat) (b : Option Nat) : own1 own n b n = b := if_pos rfl
theorem own1_other {own : Nat → Option Nat} {n i : Nat} {b : Option Nat} (h : i ≠ n) : own1 own n b i = own i := if_neg h

theorem apart1 {w : World} {B : Nat} {own : Nat → Option Nat} {n : Nat} {b : Option Nat} (hb : ∀ i k, own i = some k → B ≤ k ∧ k < w.heap.size) (hap : Apart own) (hnew : ∀ k, b = some k → own n = some k ∨ w.heap.size ≤ k) : Apart (own1 own n b) := by
  intro i j k hi hj
  by_cases ei : i = n
  · by_cases ej : j = n
    · rw [ei, ej]
    · subst ei
      rw [own1_same] at hi
      rw [own1_other ej] at hj
      rcases hnew k hi with h | h
      · exact hap _ _ _ h hj
      · have := (hb j k hj).2; omega
  · rw [own1_other ei] at hi
    by_cases ej : j = n
    · subst ej
      rw [own1_same] at hj
      rcases hnew k hj with h | h
      · exact hap _ _ _ hi h
      · have := (hb i k hi).2; omega
    · rw [own1_other ej] at hj
      exact hap _ _ _ hi hj

theorem step1 {w w' : World} {own : Nat → Option Nat} {n c : Nat} {v : Value} {b : Option Nat} (h0 : own 0 = some c) (hn : own n = v.ownBlock) (hk : Keeps (fun k => k = c ∨ v.ownBlock = some k) w w') (hnew : ∀ k, b = some k → own n = some k ∨ w.heap.size ≤ k) : Step own (own1 own n b) w w' := by
  refine ⟨hk.mono fun k _ hs => ?_, fun i k e => ?_⟩
  · rcases hs with rfl | hs
    · exact ⟨0, h0⟩
    · exact ⟨n, by rw [hn]; exact hs⟩
  · by_cases ei : i = n
    · subst ei
      rw [own1_same] at e
      rcases hnew k e with h | h
      · exact Or.inl ⟨i, h⟩
      · exact Or.inr h
    · rw [own1_other ei] at e
      exact Or.inl ⟨i, e⟩

/-- The near heap turned. -/
theorem CalAt.near {w w' : World} {B c : Nat} {own : Nat → Option Nat} {now later now' : List Item} {today : Int} {s : Nat} {days : Nat → List Item} {inD : Nat} {nv v' : Value} (h : CalAt w B c own now later today s days inD) (hnv : w.cell? ⟨c, 0, none⟩ = some nv)
    (hv : w'.cell? ⟨c, 0, none⟩ = some v') (ho : Owns w' B v' now') (hk : Keeps (fun k => k = c ∨ nv.ownBlock = some k) w w') (hcs : ∀ j, j ≠ 0 → w'.cell? ⟨c, j, none⟩ = w.cell? ⟨c, j, none⟩) (hfs : ∀ j, w'.frozen? ⟨c, j, none⟩ = w.frozen? ⟨c, j, none⟩)
    (hnew : ∀ k, v'.ownBlock = some k → nv.ownBlock = some k ∨ w.heap.size ≤ k) : CalAt w' B c (own1 own 2 v'.ownBlock) now' later today s days inD ∧ Step own (own1 own 2 v'.ownBlock) w w' := by
  obtain ⟨hb, hap, h0, hf, nv0, lv, dv, e2, e3, c0, c1, c2, c3, c4, c5, o1, o2, hd⟩ := h
  obtain rfl : nv0 = nv := by rw [c0] at hnv; exact Option.some.inj hnv
  have hnew' : ∀ k, v'.ownBlock = some k → own 2 = some k ∨ w.heap.size ≤ k := by rw [e2]; exact hnew
  have hS : ∀ i k, i ≠ 0 → i ≠ 2 → own i = some k → ¬ (k = c ∨ nv0.ownBlock = some k) := by
    intro i k i0 i2 e hs
    rcases hs with rfl | hs
    · exact i0 (hap _ _ _ e h0)
    · exact i2 (hap _ _ _ e (e2.trans hs))
  refine ⟨⟨fun i k e => ?_, apart1 hb hap hnew', by rw [own1_other (by decide)]; exact h0, fun j => by rw [hfs]; exact hf j, v', lv, dv, own1_same _ _ _, by rw [own1_other (by decide)]; exact e3, hv, by rw [hcs _ (by decide)]; exact c1, by rw [hcs _ (by decide)]; exact c2, by rw [hcs _ (by decide)]; exact c3, by rw [hcs _ (by decide)]; exact c4, by rw [hcs _ (by decide)]; exact c5, ho,
    o2.keep hk (fun k e => hS 3 k (by decide) (by decide) (by rw [e3]; exact e)), hd.keep hk (fun i k e => (hb i k e).2) (fun k e => hS 1 k (by decide) (by decide) e) (fun i k e => hS _ k (by omega) (by omega) e) (own1_other (by decide)) (fun i => own1_other (by omega))⟩, step1 h0 e2 hk hnew'⟩
  by_cases ei : i = 2
  · subst ei
    rw [own1_same] at e
    exact ho.lt k e
  · rw [own1_other ei] at e
    exact ⟨(hb i k e).1, Nat.lt_of_lt_of_le (hb i k e).2 hk.size⟩

/-- The far heap turned. -/
theorem CalAt.far {w w' : World} {B c : Nat} {own : Nat → Option Nat} {now later later' : List Item} {today : Int} {s : Nat} {days : Nat → List Item} {inD : Nat} {lv v' : Value} (h : CalAt w B c own now later today s days inD) (hlv : w.cell? ⟨c, 5, none⟩ = some lv)
    (hv : w'.cell? ⟨c, 5, none⟩ = some v') (ho : Owns w' B v' later') (hk : Keeps (fun k => k = c ∨ lv.ownBlock = some k) w w') (hcs : ∀ j, j ≠ 5 → w'.cell? ⟨c, j, none⟩ = w.cell? ⟨c, j, none⟩) (hfs : ∀ j, w'.frozen? ⟨c, j, none⟩ = w.frozen? ⟨c, j, none⟩)
    (hnew : ∀ k, v'.ownBlock = some k → lv.ownBlock = some k ∨ w.heap.size ≤ k) : CalAt w' B c (own1 own 3 v'.ownBlock) now later' today s days inD ∧ Step own (own1 own 3 v'.ownBlock) w w' := by
  obtain ⟨hb, hap, h0, hf, nv, lv0, dv, e2, e3, c0, c1, c2, c3, c4, c5, o1, o2, hd⟩ := h
  obtain rfl : lv0 = lv := by rw [c5] at hlv; exact Option.some.inj hlv
  have hnew' : ∀ k, v'.ownBlock = some k → own 3 = some k ∨ w.heap.size ≤ k := by rw [e3]; exact hnew
  have hS : ∀ i k, i ≠ 0 → i ≠ 3 → own i = some k → ¬ (k = c ∨ lv0.ownBlock = some k) := by
    intro i k i0 i2 e hs
    rcases hs with rfl | hs
    · exact i0 (hap _ _ _ e h0)
    · exact i2 (hap _ _ _ e (e3.trans hs))
  refine ⟨⟨fun i k e => ?_, apart1 hb hap hnew', by rw [own1_other (by decide)]; exact h0, fun j => by rw [hfs]; exact hf j, nv, v', dv, by rw [own1_other (by decide)]; exact e2, own1_same _ _ _, by rw [hcs _ (by decide)]; exact c0, by rw [hcs _ (by decide)]; exact c1, by rw [hcs _ (by decide)]; exact c2, by rw [hcs _ (by decide)]; exact c3, by rw [hcs _ (by decide)]; exact c4, hv,
    o1.keep hk (fun k e => hS 2 k (by decide) (by decide) (by rw [e2]; exact e)), ho, hd.keep hk (fun i k e => (hb i k e).2) (fun k e => hS 1 k (by decide) (by decide) e) (fun i k e => hS _ k (by omega) (by omega) e) (own1_other (by decide)) (fun i => own1_other (by omega))⟩, step1 h0 e3 hk hnew'⟩
  by_cases ei : i = 3
  · subst ei
    rw [own1_same] at e
    exact ho.lt k e
  · rw [own1_other ei] at e
    exact ⟨(hb i k e).1, Nat.lt_of_lt_of_le (hb i k e).2 hk.size⟩

set_option maxHeartbeats 400000 in
set_option maxRecDepth 100000 in
/-- (*Calendar).Len. -/
theorem calLen_any (B c : Nat) (own : Nat → Option Nat) (now later : List Item) (today : Int) (s : Nat) (days : Nat → List Item) (inD : Nat) (w : World) (h : CalAt w B c own now later today s days inD) (h1 : now.length ≤ 2048) (h2 : later.length ≤ 2048) (h3 : inD ≤ 2048) :
    Calls Yba.prog 13 #[.pointer (some ⟨c, 0, none⟩)] w fun e w' => e = .returned (.int .i64 ((now.length : Int) + inD + later.length)) ∧ Below w.heap.size w w' := by
  obtain ⟨hb, hap, h0, hf, nv, lv, dv, e2, e3, c0, c1, c2, c3, c4, c5, o1, o2, hd⟩ := h
  obtain ⟨a, cap, rfl, _, _⟩ := o1.form
  obtain ⟨a', cap', rfl, _, _⟩ := o2.form
  clear hd o1 o2 e2 e3 hf hap hb c1 c2 c3
  go_enter Yba.func13, Yba.ntmps13
  go_wp2
  go_quiet ((go_at_call 23; exact Calls.quiet_of_same (hlen_any _ _ _ _ _ _ (by assumption))))
  go_wp2
  go_ret
  exact ⟨rfl, below_drewN (Below.refl _ _) _⟩
end Go.Proofs.Ybulklfg
