/-
  THE PLAIN PART: items ordered by (t, id); binary heaps as lists. No Go in sight.
-/
namespace Go.Proofs.Ybulklfg

/-- An item: its time and its number. -/
abbrev Item := Int × Int

def ltI (a b : Item) : Prop := a.1 < b.1 ∨ (a.1 = b.1 ∧ a.2 < b.2)
def ltB (a b : Item) : Bool := decide (a.1 < b.1) || (decide (a.1 = b.1) && decide (a.2 < b.2))
theorem ltB_true {a b : Item} : ltB a b = true ↔ ltI a b := by simp [ltB, ltI]
theorem ltB_false {a b : Item} : ltB a b = false ↔ ¬ ltI a b := by rw [← ltB_true]; simp
/-- a comes no later than b. -/
def leI (a b : Item) : Prop := ¬ ltI b a
theorem leI_refl (a : Item) : leI a a := by simp [leI, ltI]
theorem leI_trans {a b c : Item} (h : leI a b) (k : leI b c) : leI a c := by simp [leI, ltI] at *; omega
theorem ltI_trans {a b c : Item} (h : ltI a b) (k : ltI b c) : ltI a c := by simp [ltI] at *; omega
theorem leI_of_lt {a b : Item} (h : ltI a b) : leI a b := by simp [leI, ltI] at *; omega
theorem leI_antisymm {a b : Item} (h : leI a b) (k : leI b a) : a = b := by
  simp [leI, ltI] at h k
  apply Prod.ext <;> omega
theorem leI_fst {a b : Item} (h : leI a b) : a.1 ≤ b.1 := by simp [leI, ltI] at h; omega
theorem leI_of_fst {a b : Item} (h : a.1 < b.1) : leI a b := by simp [leI, ltI]; omega

/-- The item at place i. -/
def itemAt (l : List Item) (i : Nat) : Item := l.getD i (0, 0)
theorem itemAt_get {l : List Item} {i : Nat} (h : i < l.length) : itemAt l i = l[i] := by simp [itemAt, h]
theorem itemAt_mem {l : List Item} {i : Nat} (h : i < l.length) : itemAt l i ∈ l := by rw [itemAt_get h]; exact List.getElem_mem h
theorem itemAt_set {l : List Item} {i j : Nat} {x : Item} (h : i < l.length) : itemAt (l.set i x) j = if i = j then x else itemAt l j := by
  simp only [itemAt, List.getD_eq_getElem?_getD, List.getElem?_set]
  split
  · rename_i e; subst e; simp
  · rfl
theorem mem_itemAt {l : List Item} {x : Item} (h : x ∈ l) : ∃ i, i < l.length ∧ itemAt l i = x := by
  obtain ⟨i, hi, rfl⟩ := List.mem_iff_getElem.1 h
  exact ⟨i, hi, itemAt_get hi⟩

/-- Two places exchanged. -/
def swapI (l : List Item) (i j : Nat) : List Item := (l.set i (itemAt l j)).set j (itemAt l i)
theorem swapI_length (l : List Item) (i j : Nat) : (swapI l i j).length = l.length := by simp [swapI]
theorem itemAt_swap {l : List Item} {i j k : Nat} (hi : i < l.length) (hj : j < l.length) : itemAt (swapI l i j) k = if j = k then itemAt l i else if i = k then itemAt l j else itemAt l k := by
  unfold swapI
  rw [itemAt_set (by simpa using hj), itemAt_set hi]
theorem swap_right {l : List Item} {i j : Nat} (hi : i < l.length) (hj : j < l.length) : itemAt (swapI l i j) j = itemAt l i := by rw [itemAt_swap hi hj, if_pos rfl]
theorem swap_left {l : List Item} {i j : Nat} (hi : i < l.length) (hj : j < l.length) (h : j ≠ i) : itemAt (swapI l i j) i = itemAt l j := by rw [itemAt_swap hi hj, if_neg h, if_pos rfl]
theorem swap_other {l : List Item} {i j k : Nat} (hi : i < l.length) (hj : j < l.length) (h1 : k ≠ i) (h2 : k ≠ j) : itemAt (swapI l i j) k = itemAt l k := by rw [itemAt_swap hi hj, if_neg (Ne.symm h2), if_neg (Ne.symm h1)]
theorem swapI_perm {l : List Item} {i j : Nat} (hi : i < l.length) (hj : j < l.length) : (swapI l i j).Perm l := by
  have h := Array.swap_perm (xs := l.toArray) (i := i) (j := j) (by simpa using hi) (by simpa using hj)
  have h' := h.toList
  have e : (l.toArray.swap i j (by simpa using hi) (by simpa using hj)).toList = swapI l i j := by
    simp [Array.swap, swapI, itemAt_get hi, itemAt_get hj]
  rw [e] at h'
  simpa using h'

/-! ### Heaps -/
def IsHeap (l : List Item) : Prop := ∀ j, 0 < j → j < l.length → leI (itemAt l ((j - 1) / 2)) (itemAt l j)

/-- The top is the least. -/
theorem heap_top {l : List Item} (h : IsHeap l) : ∀ j, j < l.length → leI (itemAt l 0) (itemAt l j) := by
  intro j
  induction j using Nat.strongRecOn with
  | _ j ih =>
    intro hj
    by_cases h0 : j = 0
    · subst h0; exact leI_refl _
    · exact leI_trans (ih ((j - 1) / 2) (by omega) (by omega)) (h j (by omega) hj)
theorem heap_least {l : List Item} (h : IsHeap l) {x : Item} (hx : x ∈ l) : leI (itemAt l 0) x := by
  obtain ⟨i, hi, rfl⟩ := mem_itemAt hx
  exact heap_top h i hi

/-- In order but for place i, which may want to go up. -/
def HeapUp (l : List Item) (i : Nat) : Prop :=
  (∀ j, 0 < j → j < l.length → j ≠ i → leI (itemAt l ((j - 1) / 2)) (itemAt l j)) ∧
  (0 < i → ∀ j, 0 < j → j < l.length → (j - 1) / 2 = i → leI (itemAt l ((i - 1) / 2)) (itemAt l j))

theorem heapUp_end {l : List Item} {i : Nat} (h : HeapUp l i) (hi : i < l.length) (he : i = 0 ∨ leI (itemAt l ((i - 1) / 2)) (itemAt l i)) : IsHeap l := by
  intro j h0 hj
  by_cases e : j = i
  · subst e
    rcases he with he | he
    · omega
    · exact he
  · exact h.1 j h0 hj e

theorem itemAt_append_left {l : List Item} {x : Item} {j : Nat} (h : j < l.length) : itemAt (l ++ [x]) j = itemAt l j := by
  rw [itemAt_get (by simp; omega), itemAt_get h, List.getElem_append_left h]
theorem itemAt_append_last {l : List Item} {x : Item} : itemAt (l ++ [x]) l.length = x := by
  rw [itemAt_get (by simp)]; simp

theorem heapUp_push {l : List Item} (h : IsHeap l) (x : Item) : HeapUp (l ++ [x]) l.length := by
  refine ⟨fun j h0 hj he => ?_, fun h0 j hj0 hj hp => ?_⟩
  · have hj' : j < l.length := by simp at hj; omega
    rw [itemAt_append_left hj', itemAt_append_left (by omega)]
    exact h j h0 hj'
  · simp at hj; omega

theorem heapUp_swap {l : List Item} {i : Nat} (h : HeapUp l i) (hi : i < l.length) (h0 : 0 < i) (hlt : ltI (itemAt l i) (itemAt l ((i - 1) / 2))) : HeapUp (swapI l i ((i - 1) / 2)) ((i - 1) / 2) := by
  obtain ⟨h1, h2⟩ := h
  obtain ⟨p, hpe⟩ : ∃ p, p = (i - 1) / 2 := ⟨_, rfl⟩
  rw [← hpe] at hlt h2 ⊢
  have hp : p < l.length := by omega
  have hpi : p ≠ i := by omega
  refine ⟨fun j hj0 hj he => ?_, fun hp0 j hj0 hj hpar => ?_⟩
  · rw [swapI_length] at hj
    by_cases e1 : j = i
    · subst e1
      rw [← hpe, swap_right hi hp, swap_left hi hp hpi]
      exact leI_of_lt hlt
    · rw [swap_other hi hp e1 he]
      by_cases e2 : (j - 1) / 2 = p
      · rw [e2, swap_right hi hp]
        have := h1 j hj0 hj e1
        rw [e2] at this
        exact leI_trans (leI_of_lt hlt) this
      · by_cases e3 : (j - 1) / 2 = i
        · rw [e3, swap_left hi hp hpi]
          exact h2 h0 j hj0 hj e3
        · rw [swap_other hi hp e3 e2]
          exact h1 j hj0 hj e1
  · rw [swapI_length] at hj
    rw [swap_other hi hp (k := (p - 1) / 2) (by omega) (by omega)]
    have hup := h1 p hp0 hp (by omega)
    by_cases e1 : j = i
    · subst e1
      rw [swap_left hi hp hpi]
      exact hup
    · rw [swap_other hi hp e1 (by omega)]
      have := h1 j hj0 hj e1
      rw [hpar] at this
      exact leI_trans hup this

/-- In order but for place i, which may want to go down. -/
def HeapDown (l : List Item) (i : Nat) : Prop :=
  (∀ j, 0 < j → j < l.length → (j - 1) / 2 ≠ i → leI (itemAt l ((j - 1) / 2)) (itemAt l j)) ∧
  (0 < i → ∀ j, 0 < j → j < l.length → (j - 1) / 2 = i → leI (itemAt l ((i - 1) / 2)) (itemAt l j))

theorem heapDown_end {l : List Item} {i : Nat} (h : HeapDown l i) (hl : 2 * i + 1 < l.length → leI (itemAt l i) (itemAt l (2 * i + 1))) (hr : 2 * i + 2 < l.length → leI (itemAt l i) (itemAt l (2 * i + 2))) : IsHeap l := by
  intro j h0 hj
  by_cases e : (j - 1) / 2 = i
  · rcases (by omega : j = 2 * i + 1 ∨ j = 2 * i + 2) with e' | e' <;> subst e' <;> rw [e]
    · exact hl hj
    · exact hr hj
  · exact h.1 j h0 hj e

/-- The last item laid at the top, one item fewer. -/
theorem heapDown_pop {l : List Item} (h : IsHeap l) (x : Item) : HeapDown ((l.set 0 x).take (l.length - 1)) 0 := by
  refine ⟨fun j h0 hj he => ?_, fun h0 => absurd h0 (by omega)⟩
  simp at hj
  have t : ∀ k, 0 < k → k < l.length - 1 → itemAt ((l.set 0 x).take (l.length - 1)) k = itemAt l k := by
    intro k hk0 hk
    rw [itemAt_get (by simp; omega), itemAt_get (by omega)]
    simp [List.getElem_set]
    intro e; omega
  rw [t j h0 (by omega), t _ (by omega) (by omega)]
  exact h j h0 (by omega)

theorem heapDown_swap {l : List Item} {i c : Nat} (h : HeapDown l i) (hc : c < l.length) (hci : c = 2 * i + 1 ∨ c = 2 * i + 2) (hlt : ltI (itemAt l c) (itemAt l i))
    (hl : 2 * i + 1 < l.length → leI (itemAt l c) (itemAt l (2 * i + 1))) (hr : 2 * i + 2 < l.length → leI (itemAt l c) (itemAt l (2 * i + 2))) : HeapDown (swapI l i c) c := by
  obtain ⟨h1, h2⟩ := h
  have hi : i < l.length := by omega
  have hne : c ≠ i := by omega
  refine ⟨fun j hj0 hj he => ?_, fun _ j hj0 hj hpar => ?_⟩
  · rw [swapI_length] at hj
    by_cases e1 : j = c
    · subst e1
      have e : (j - 1) / 2 = i := by omega
      rw [e, swap_right hi hc, swap_left hi hc hne]
      exact leI_of_lt hlt
    · by_cases e2 : (j - 1) / 2 = i
      · rw [e2, swap_left hi hc hne, swap_other hi hc (by omega) e1]
        rcases (by omega : j = 2 * i + 1 ∨ j = 2 * i + 2) with e' | e'
        · subst e'; exact hl hj
        · subst e'; exact hr hj
      · rw [swap_other hi hc e2 he]
        by_cases e3 : j = i
        · subst e3
          rw [swap_left hi hc hne]
          exact h2 hj0 c (by omega) hc (by omega)
        · rw [swap_other hi hc e3 e1]
          exact h1 j hj0 hj e2
  · rw [swapI_length] at hj
    have hcp : (c - 1) / 2 = i := by omega
    rw [hcp, swap_left hi hc hne, swap_other hi hc (by omega) (by omega)]
    have := h1 j hj0 hj (by omega)
    rw [hpar] at this
    exact this

theorem pop_perm {l : List Item} (h : 0 < l.length) : l.Perm (itemAt l 0 :: ((l.set 0 (itemAt l (l.length - 1))).take (l.length - 1))) := by
  match l, h with
  | a :: r, _ =>
    by_cases hr : r = []
    · subst hr; simp [itemAt]
    · have e1 : itemAt (a :: r) ((a :: r).length - 1) = r.getLast hr := by
        rw [itemAt_get (by simp)]
        rw [List.getLast_eq_getElem]
        have : (a :: r).length - 1 = (r.length - 1) + 1 := by
          have := List.length_pos_iff.2 hr
          simp; omega
        simp only [this, List.getElem_cons_succ]
      rw [e1]
      have hl := List.length_pos_iff.2 hr
      have e2 : (a :: r).length - 1 = (r.length - 1) + 1 := by simp; omega
      rw [e2]
      simp only [List.set_cons_zero, List.take_succ_cons]
      have e3 : r.take (r.length - 1) = r.dropLast := by rw [List.dropLast_eq_take]
      rw [e3]
      have e4 : itemAt (a :: r) 0 = a := by simp [itemAt]
      rw [e4]
      refine List.Perm.cons a ?_
      have := List.dropLast_concat_getLast hr
      calc r.Perm (r.dropLast ++ [r.getLast hr]) := by rw [this]
        _ |>.Perm (r.getLast hr :: r.dropLast) := List.perm_append_comm
end Go.Proofs.Ybulklfg
