/-
  THE PLAIN PART OF THE CALENDAR: days, buckets, what a push and a turn do to the values held. No Go in sight.
-/
import Derived.Test.YbulklfgPlain
namespace Go.Proofs.Ybulklfg
set_option linter.unusedVariables false

def dayOf (p : Item) : Int := p.1.tdiv 1000000
theorem day_mono {a b : Int} (h : a ≤ b) : a.tdiv 1000000 ≤ b.tdiv 1000000 := Int.tdiv_le_tdiv (by decide) h
theorem dayOf_mono {p q : Item} (h : leI p q) : dayOf p ≤ dayOf q := day_mono (leI_fst h)

/-- All values of the buckets. -/
def bag (s : Nat) (days : Nat → List Item) : List Item := (List.range s).flatMap days
theorem bag_succ (s : Nat) (days : Nat → List Item) : bag (s + 1) days = bag s days ++ days s := by simp [bag, List.range_succ]
theorem bag_congr {s : Nat} {f g : Nat → List Item} (h : ∀ i, i < s → f i = g i) : bag s f = bag s g := by
  induction s with
  | zero => rfl
  | succ s ih => rw [bag_succ, bag_succ, ih fun i hi => h i (by omega), h s (by omega)]
theorem mem_bag {s : Nat} {days : Nat → List Item} {x : Item} : x ∈ bag s days ↔ ∃ i, i < s ∧ x ∈ days i := by simp [bag]
def upd (days : Nat → List Item) (i : Nat) (l : List Item) : Nat → List Item := fun j => if j = i then l else days j
theorem upd_same (days : Nat → List Item) (i : Nat) (l : List Item) : upd days i l i = l := if_pos rfl
theorem upd_other {days : Nat → List Item} {i j : Nat} {l : List Item} (h : j ≠ i) : upd days i l j = days j := if_neg h
theorem upd_id (days : Nat → List Item) (i : Nat) : upd days i (days i) = days := by
  funext j
  unfold upd
  split
  · rename_i e; rw [e]
  · rfl
theorem bag_split {s i : Nat} (h : i < s) (days : Nat → List Item) (l : List Item) : (bag s (upd days i l)).Perm (l ++ bag s (upd days i [])) := by
  induction s with
  | zero => omega
  | succ s ih =>
    rw [bag_succ, bag_succ]
    by_cases e : i = s
    · subst e
      rw [upd_same, upd_same, bag_congr (f := upd days i l) (g := upd days i []) (fun j hj => by rw [upd_other (by omega), upd_other (by omega)])]
      simpa using List.perm_append_comm
    · rw [upd_other (fun e' => e e'.symm), upd_other (fun e' => e e'.symm), ← List.append_assoc]
      exact (ih (by omega)).append_right _
theorem bag_own {s i : Nat} (h : i < s) (days : Nat → List Item) : (bag s days).Perm (days i ++ bag s (upd days i [])) := by
  have := bag_split h days (days i)
  rwa [upd_id] at this
theorem bag_add {s i : Nat} (h : i < s) (days : Nat → List Item) (p : Item) : (bag s (upd days i (days i ++ [p]))).Perm (p :: bag s days) := by
  refine (bag_split h days _).trans ?_
  have h1 : (days i ++ [p] ++ bag s (upd days i [])).Perm (p :: (days i ++ bag s (upd days i []))) := by
    rw [List.append_assoc]
    exact List.perm_middle
  exact h1.trans (List.Perm.cons _ (bag_own h days).symm)

/-- What the calendar holds, and where. a, b: from which day on the buckets' and the far heap's values fall. -/
structure CalInv (now later : List Item) (today : Int) (s : Nat) (days : Nat → List Item) (inD : Nat) (all : List Item) (a b : Int) : Prop where
  hnow : IsHeap now
  hlater : IsHeap later
  pos : 0 ≤ today
  nowLe : ∀ x ∈ now, dayOf x ≤ today
  daysIn : ∀ i, i < s → ∀ x ∈ days i, a ≤ dayOf x ∧ dayOf x < today + s ∧ (dayOf x % s).toNat = i
  laterGe : ∀ x ∈ later, b ≤ dayOf x
  count : inD = (bag s days).length
  perm : all.Perm (now ++ (later ++ bag s days))

theorem CalInv.size {now later : List Item} {today : Int} {s : Nat} {days : Nat → List Item} {inD : Nat} {all : List Item} {a b : Int} (h : CalInv now later today s days inD all a b) : all.length = now.length + later.length + inD := by
  rw [h.perm.length_eq, h.count]
  simp
  omega

/-- What Push does. -/
def PushR (today : Int) (s : Nat) (p : Item) (now later : List Item) (days : Nat → List Item) (inD : Nat) (now' later' : List Item) (days' : Nat → List Item) (inD' : Nat) : Prop :=
  (dayOf p ≤ today ∧ now'.Perm (p :: now) ∧ IsHeap now' ∧ later' = later ∧ days' = days ∧ inD' = inD) ∨
  (today < dayOf p ∧ dayOf p - today < s ∧ now' = now ∧ later' = later ∧ days' = upd days (dayOf p % s).toNat (days (dayOf p % s).toNat ++ [p]) ∧ inD' = inD + 1) ∨
  (today < dayOf p ∧ s ≤ dayOf p - today ∧ now' = now ∧ later'.Perm (p :: later) ∧ IsHeap later' ∧ days' = days ∧ inD' = inD)

theorem CalInv.push {now later now' later' : List Item} {today : Int} {s : Nat} {days days' : Nat → List Item} {inD inD' : Nat} {all : List Item} {a b : Int} {p : Item} (h : CalInv now later today s days inD all a b) (hs : 0 < s) (ha : a ≤ today + 1) (hb : b ≤ today + s)
    (hp : PushR today s p now later days inD now' later' days' inD') : CalInv now' later' today s days' inD' (p :: all) a b := by
  rcases hp with ⟨h1, h2, h3, rfl, rfl, rfl⟩ | ⟨h1, h2, rfl, rfl, rfl, rfl⟩ | ⟨h1, h2, rfl, h3, h4, rfl, rfl⟩
  · refine ⟨h3, h.hlater, h.pos, fun x hx => ?_, h.daysIn, h.laterGe, h.count, ?_⟩
    · rcases List.mem_cons.1 (h2.mem_iff.1 hx) with rfl | hx
      · exact h1
      · exact h.nowLe x hx
    · exact (List.Perm.cons p h.perm).trans (by rw [← List.cons_append]; exact (h2.symm.append_right _))
  · have hi : (dayOf p % s).toNat < s := by
      have h0 := Int.emod_nonneg (dayOf p) (b := (s : Int)) (by omega)
      have h1 := Int.emod_lt_of_pos (dayOf p) (b := (s : Int)) (by omega)
      omega
    refine ⟨h.hnow, h.hlater, h.pos, h.nowLe, fun i hi' x hx => ?_, h.laterGe, ?_, ?_⟩
    · by_cases e : i = (dayOf p % s).toNat
      · rw [e, upd_same] at hx
        rcases List.mem_append.1 hx with hx | hx
        · have := h.daysIn _ hi x hx
          rw [e]
          exact this
        · simp at hx
          subst hx
          exact ⟨by omega, by omega, e.symm⟩
      · rw [upd_other e] at hx
        exact h.daysIn i hi' x hx
    · rw [(bag_add hi days p).length_eq]; simp [h.count]
    · refine (List.Perm.cons p h.perm).trans ?_
      have e1 : (p :: (now' ++ (later' ++ bag s days))).Perm (now' ++ (later' ++ (p :: bag s days))) := by
        rw [← List.append_assoc, ← List.append_assoc]
        exact List.perm_middle.symm
      exact e1.trans (((bag_add hi days p).symm.append_left later').append_left now')
  · refine ⟨h.hnow, h4, h.pos, h.nowLe, h.daysIn, fun x hx => ?_, h.count, ?_⟩
    · rcases List.mem_cons.1 (h3.mem_iff.1 hx) with rfl | hx
      · omega
      · exact h.laterGe x hx
    · refine (List.Perm.cons p h.perm).trans ?_
      have e1 : (p :: (now' ++ (later ++ bag s days'))).Perm (now' ++ ((p :: later) ++ bag s days')) := by
        rw [List.cons_append]
        exact List.perm_middle.symm
      exact e1.trans ((h3.symm.append_right _).append_left now')

/-- The top of the far heap taken out. -/
theorem CalInv.popLater {now later later' : List Item} {today : Int} {s : Nat} {days : Nat → List Item} {inD : Nat} {all : List Item} {a b : Int} {x : Item} (h : CalInv now later today s days inD all a b) (hp : later.Perm (x :: later')) (hh : IsHeap later') :
    ∃ all', all.Perm (x :: all') ∧ CalInv now later' today s days inD all' a b := by
  refine ⟨now ++ (later' ++ bag s days), ?_, h.hnow, hh, h.pos, h.nowLe, h.daysIn, fun y hy => h.laterGe y (hp.mem_iff.2 (List.mem_cons_of_mem _ hy)), h.count, List.Perm.refl _⟩
  refine h.perm.trans ?_
  have e1 : (now ++ ((x :: later') ++ bag s days)).Perm (x :: (now ++ (later' ++ bag s days))) := by
    rw [List.cons_append]
    exact List.perm_middle
  exact ((hp.append_right _).append_left now).trans e1

/-- The near heap's top taken out. -/
theorem CalInv.popNow {now now' later : List Item} {today : Int} {s : Nat} {days : Nat → List Item} {inD : Nat} {all : List Item} {a b : Int} {x : Item} (h : CalInv now later today s days inD all a b) (hp : now.Perm (x :: now')) (hh : IsHeap now') :
    ∃ all', all.Perm (x :: all') ∧ CalInv now' later today s days inD all' a b := by
  refine ⟨now' ++ (later ++ bag s days), h.perm.trans (hp.append_right _), hh, h.hlater, h.pos, fun y hy => h.nowLe y (hp.mem_iff.2 (List.mem_cons_of_mem _ hy)), h.daysIn, h.laterGe, h.count, List.Perm.refl _⟩

theorem CalInv.anew {now later : List Item} {today : Int} {s : Nat} {days : Nat → List Item} {inD : Nat} {all all' : List Item} {a b : Int} (h : CalInv now later today s days inD all a b) (hp : all'.Perm all) : CalInv now later today s days inD all' a b :=
  ⟨h.hnow, h.hlater, h.pos, h.nowLe, h.daysIn, h.laterGe, h.count, hp.trans h.perm⟩

/-- The top of a near heap that is not empty comes before all that the calendar holds. -/
theorem CalInv.least {now later : List Item} {today : Int} {s : Nat} {days : Nat → List Item} {inD : Nat} {all : List Item} {b : Int} (h : CalInv now later today s days inD all (today + 1) b) (hb : today + 1 ≤ b) (hn : 0 < now.length) : ∀ x ∈ all, leI (itemAt now 0) x := by
  intro x hx
  have h0 := h.nowLe _ (itemAt_mem hn)
  have far : ∀ y, today + 1 ≤ dayOf y → leI (itemAt now 0) y := by
    intro y hy
    refine leI_of_fst ?_
    rcases Int.lt_or_le (itemAt now 0).1 y.1 with h | h
    · exact h
    · have := day_mono h
      unfold dayOf at hy h0
      omega
  rcases List.mem_append.1 (h.perm.mem_iff.1 hx) with hx | hx
  · exact heap_least h.hnow hx
  · rcases List.mem_append.1 hx with hx | hx
    · exact far x (by have := h.laterGe x hx; omega)
    · obtain ⟨i, hi, hx⟩ := mem_bag.1 hx
      exact far x (h.daysIn i hi x hx).1

/-- The day moved on, the near heap empty. -/
theorem CalInv.onward {later : List Item} {today t' : Int} {s : Nat} {days : Nat → List Item} {inD : Nat} {all : List Item} (h : CalInv [] later today s days inD all (today + 1) (today + s)) (hs : 0 < s) (h1 : today < t') (h2 : inD = 0 ∨ t' = today + 1) (h3 : ∀ x ∈ later, t' ≤ dayOf x) :
    CalInv [] later t' s days inD all t' t' := by
  refine ⟨h.hnow, h.hlater, by have := h.pos; omega, fun x hx => by simp at hx, fun i hi x hx => ?_, h3, h.count, h.perm⟩
  rcases h2 with h2 | h2
  · have hc := h.count
    have hm : x ∈ bag s days := mem_bag.2 ⟨i, hi, hx⟩
    rw [h2] at hc
    have : bag s days = [] := List.eq_nil_of_length_eq_zero hc.symm
    rw [this] at hm
    simp at hm
  · have := h.daysIn i hi x hx
    omega

/-- The bucket of the day, laid into the near heap. -/
theorem CalInv.moved {now now' later : List Item} {today : Int} {s : Nat} {days : Nat → List Item} {inD : Nat} {all : List Item} (h : CalInv now later today s days inD all today today) (hs : 0 < s) (hl : ∀ x ∈ later, today + s ≤ dayOf x)
    (hp : now'.Perm (now ++ days (today % s).toNat)) (hh : IsHeap now') :
    CalInv now' later today s (upd days (today % s).toNat []) (inD - (days (today % s).toNat).length) all (today + 1) (today + s) ∧ (days (today % s).toNat).length ≤ inD := by
  have hi : (today % s).toNat < s := by
    have h0 := Int.emod_nonneg today (b := (s : Int)) (by omega)
    have h1 := Int.emod_lt_of_pos today (b := (s : Int)) (by omega)
    omega
  have hb := bag_own hi days
  have hlen := hb.length_eq
  rw [List.length_append] at hlen
  have hc := h.count
  refine ⟨⟨hh, h.hlater, h.pos, fun x hx => ?_, fun i hi' x hx => ?_, hl, by omega, ?_⟩, by omega⟩
  · rcases List.mem_append.1 (hp.mem_iff.1 hx) with hx | hx
    · exact h.nowLe x hx
    · obtain ⟨h1, h2, h3⟩ := h.daysIn _ hi x hx
      have e : dayOf x % s = today % s := by
        have a1 := Int.emod_nonneg today (b := (s : Int)) (by omega)
        have a2 := Int.emod_nonneg (dayOf x) (b := (s : Int)) (by omega)
        omega
      have e2 : (dayOf x - today) % s = 0 := by rw [Int.sub_emod, e]; simp
      have e3 : (dayOf x - today) % s = dayOf x - today := Int.emod_eq_of_lt (by omega) (by omega)
      omega
  · by_cases e : i = (today % s).toNat
    · rw [e, upd_same] at hx; simp at hx
    · rw [upd_other e] at hx
      obtain ⟨h1, h2, h3⟩ := h.daysIn i hi' x hx
      refine ⟨?_, h2, h3⟩
      rcases Int.lt_or_le today (dayOf x) with h4 | h4
      · omega
      · have : dayOf x = today := by omega
        rw [this] at h3
        exact absurd h3.symm e
  · refine h.perm.trans ?_
    have e1 : (now ++ (later ++ bag s days)).Perm (now ++ (later ++ (days (today % s).toNat ++ bag s (upd days (today % s).toNat [])))) := (hb.append_left later).append_left now
    refine e1.trans ?_
    have e2 : (now ++ (later ++ (days (today % s).toNat ++ bag s (upd days (today % s).toNat [])))).Perm (now ++ (days (today % s).toNat ++ (later ++ bag s (upd days (today % s).toNat [])))) := by
      refine List.Perm.append_left now ?_
      rw [← List.append_assoc, ← List.append_assoc]
      exact List.Perm.append_right _ List.perm_append_comm
    refine e2.trans ?_
    rw [← List.append_assoc]
    exact hp.symm.append_right _
end Go.Proofs.Ybulklfg
