import Derived.Test.YbulklfgPop
namespace Go.Proofs.Ybulklfg
open Go.RowKit
set_option linter.unusedVariables false
set_option linter.unusedSimpArgs false
attribute [local go_sem] Yba.mLess Yba.mTime

/-- The script, as it lies in memory. -/
def IsOps (w : World) (a : Option Addr) (len : Nat) (O A : Nat → Int) : Prop :=
  (∀ i, i < len → 0 ≤ O i ∧ O i ≤ 255 ∧ -2147483648 ≤ A i ∧ A i ≤ 2147483647) ∧
  (len = 0 ∨ ∃ b o, a = some ⟨b, o, none⟩ ∧ b < w.heap.size ∧ ∀ i, i < len → w.cell? ⟨b, o + i * 2, none⟩ = some (.int .u8 (O i)) ∧ w.cell? ⟨b, o + i * 2 + 1, none⟩ = some (.int .i32 (A i)))

/-- The model's own removal: the last laid at k, one shorter. -/
def cutAt (l : List Item) (k : Nat) : List Item := (l.set k (itemAt l (l.length - 1))).take (l.length - 1)
theorem cutAt_length {l : List Item} {k : Nat} : (cutAt l k).length = l.length - 1 := by simp [cutAt]
theorem cutAt_perm {l : List Item} {k : Nat} (h : k < l.length) : l.Perm (itemAt l k :: cutAt l k) := by
  have hs := swapI_perm (l := l) (i := k) (j := l.length - 1) h (by omega)
  have e : swapI l k (l.length - 1) = cutAt l k ++ [itemAt l k] := by
    apply List.ext_getElem?
    intro j
    unfold cutAt swapI
    rw [List.getElem?_append]
    simp only [List.length_take, List.length_set, List.getElem?_set, List.getElem?_take]
    by_cases hj : j < l.length - 1
    · have h1 : ¬ l.length - 1 = j := by omega
      have h2 : j < min (l.length - 1) l.length := by omega
      simp [h1, h2, hj]
    · by_cases hj2 : j = l.length - 1
      · subst hj2
        have h2 : ¬ (l.length - 1 < min (l.length - 1) l.length) := by omega
        have h3 : l.length - 1 - min (l.length - 1) l.length = 0 := by omega
        have h4 : l.length - 1 < l.length := by omega
        simp [h2, h3, h4]
      · have h1 : ¬ l.length - 1 = j := by omega
        have h2 : ¬ (j < min (l.length - 1) l.length) := by omega
        have h3 : j - min (l.length - 1) l.length ≠ 0 := by omega
        have h4 : ¬ k = j := by omega
        have h5 : l.length ≤ j := by omega
        simp [h1, h2, h4, h5]
        omega
  rw [e] at hs
  exact hs.symm.trans List.perm_append_comm

/-- The calendar as it is made. -/
def own0 (c : Nat) : Nat → Option Nat := fun i => if i = 0 then some c else none
theorem cal_start {w : World} {B c s : Nat} (hB : B ≤ c) (hc : c < w.heap.size) (hf : ∀ j, w.frozen? ⟨c, j, none⟩ = false) (c0 : w.cell? ⟨c, 0, none⟩ = some (.slice none 0 0)) (c1 : w.cell? ⟨c, 1, none⟩ = some (.int .i64 0)) (c2 : w.cell? ⟨c, 2, none⟩ = some (.int .i64 s)) (c3 : w.cell? ⟨c, 3, none⟩ = some (.slice none 0 0)) (c4 : w.cell? ⟨c, 4, none⟩ = some (.int .i64 0)) (c5 : w.cell? ⟨c, 5, none⟩ = some (.slice none 0 0)) :
    CalAt w B c (own0 c) [] [] 0 s (fun _ => []) 0 := by
  have h1 : ∀ i k, own0 c i = some k → i = 0 ∧ k = c := by
    intro i k e
    unfold own0 at e
    split at e
    · rename_i h; cases e; exact ⟨h, rfl⟩
    · cases e
  refine ⟨fun i k e => ?_, fun i j k ei ej => ?_, rfl, hf, _, _, _, rfl, rfl, c0, c1, c2, c3, c4, c5, Owns.nil _ _, Owns.nil _ _, Or.inl ⟨rfl, rfl, fun _ => rfl, fun i => ?_⟩⟩
  · obtain ⟨rfl, rfl⟩ := h1 i k e; exact ⟨hB, hc⟩
  · rw [(h1 i k ei).1, (h1 j k ej).1]
  · unfold own0; rw [if_neg (by omega)]
theorem bag_empty (s : Nat) : bag s (fun _ => []) = [] := by simp [bag]
theorem inv_start (s : Nat) : CalInv [] [] 0 s (fun _ => []) 0 [] (0 + 1) (0 + s) :=
  ⟨fun j _ h => by simp at h, fun j _ h => by simp at h, by omega, fun x h => by simp at h, fun i _ x h => by simp at h, fun x h => by simp at h, by rw [bag_empty]; rfl, by rw [bag_empty]; simp⟩

/-- The law's state, i operations in. -/
structure StW (B c s : Nat) (w : World) (i : Nat) (v : Value) (last : Int) (own : Nat → Option Nat) (now later : List Item) (today : Int) (days : Nat → List Item) (inD : Nat) (ml : List Item) (wr : World) : Prop where
  cal : CalAt wr B c own now later today s days inD
  inv : CalInv now later today s days inD ml (today + 1) (today + s)
  owns : Owns wr B v ml
  apart : ∀ k, v.ownBlock = some k → ¬ Foot own k
  len : ml.length ≤ i
  day : today ≤ 50 + 41 * i
  last1 : -50000000 ≤ last
  last2 : last ≤ 50000000 + 41000000 * i
  times : ∀ x ∈ ml, -50000000 ≤ x.1 ∧ x.1 ≤ 50000000 + 41000000 * i
  bel : Below B w wr
def St (B c s : Nat) (w : World) (i : Nat) (v : Value) (last : Int) (wr : World) : Prop := ∃ own now later today days inD ml, StW B c s w i v last own now later today days inD ml wr

theorem StW.onward {B c s : Nat} {w : World} {i : Nat} {v : Value} {last : Int} {own : Nat → Option Nat} {now later : List Item} {today : Int} {days : Nat → List Item} {inD : Nat} {ml : List Item} {wr : World} (h : StW B c s w i v last own now later today days inD ml wr) : StW B c s w (i + 1) v last own now later today days inD ml wr :=
  ⟨h.cal, h.inv, h.owns, h.apart, by have := h.len; omega, by have := h.day; omega, h.last1, by have := h.last2; omega, fun x hx => ⟨(h.times x hx).1, by have := (h.times x hx).2; omega⟩, h.bel⟩
theorem StW.keep {B c s : Nat} {w : World} {i : Nat} {v : Value} {last : Int} {own : Nat → Option Nat} {now later : List Item} {today : Int} {days : Nat → List Item} {inD : Nat} {ml : List Item} {wr w2 : World} (h : StW B c s w i v last own now later today days inD ml wr) (hb : Below wr.heap.size wr w2) (hB : B ≤ wr.heap.size) : StW B c s w i v last own now later today days inD ml w2 :=
  ⟨h.cal.keep (S := fun _ => False) (Keeps.of_below hb) (fun _ _ _ h => h), h.inv, h.owns.keep (S := fun _ => False) (Keeps.of_below hb) (fun _ _ h => h), h.apart, h.len, h.day, h.last1, h.last2, h.times, h.bel.trans (hb.mono hB)⟩
theorem St.onward {B c s : Nat} {w : World} {i : Nat} {v : Value} {last : Int} {wr : World} (h : St B c s w i v last wr) : St B c s w (i + 1) v last wr := by
  obtain ⟨own, now, later, today, days, inD, ml, h⟩ := h
  exact ⟨own, now, later, today, days, inD, ml, h.onward⟩
theorem St.keep {B c s : Nat} {w : World} {i : Nat} {v : Value} {last : Int} {wr w2 : World} (h : St B c s w i v last wr) (hb : Below wr.heap.size wr w2) (hB : B ≤ wr.heap.size) : St B c s w i v last w2 := by
  obtain ⟨own, now, later, today, days, inD, ml, h⟩ := h
  exact ⟨own, now, later, today, days, inD, ml, h.keep hb hB⟩
theorem st_start {B c s : Nat} {w w2 : World} (h : CalAt w2 B c (own0 c) [] [] 0 s (fun _ => []) 0) (hb : Below B w w2) : St B c s w 0 (.slice none 0 0) 0 w2 := by
  refine ⟨_, [], [], 0, _, 0, [], h, inv_start s, Owns.nil _ _, fun k e => ?_, by simp, by simp, by simp, by simp, fun x hx => ?_, hb⟩
  · cases e
  · simp at hx

theorem fit_of {ml : List Item} {i : Nat} (hi : i ≤ 1024) (hl : ml.length ≤ i) (h : ∀ x ∈ ml, -50000000 ≤ x.1 ∧ x.1 ≤ 50000000 + 41000000 * (i : Int)) : Fit (50 + 41 * (i : Int)) ml := by
  refine ⟨by omega, by omega, fun x hx => ?_⟩
  obtain ⟨h1, h2⟩ := h x hx
  refine ⟨by omega, by omega, ?_⟩
  have h3 := day_mono h2
  have e : (50000000 + 41000000 * (i : Int)).tdiv 1000000 = 50 + 41 * (i : Int) := by
    rw [Int.tdiv_eq_ediv_of_nonneg (by omega)]
    omega
  rw [e] at h3
  exact h3

/-- Len, in a state. -/
theorem lawLen {B c s : Nat} {w : World} {i : Nat} {a : Option Addr} {m cap : Nat} {last : Int} {wr : World} (h : St B c s w i (.slice a m cap) last wr) (hi : i ≤ 1024) :
    Calls Yba.prog 13 #[.pointer (some ⟨c, 0, none⟩)] wr fun e w' => e = .returned (.int .i64 m) ∧ Below wr.heap.size wr w' := by
  obtain ⟨own, now, later, today, days, inD, ml, h⟩ := h
  have hsz := h.inv.size
  have hl := h.len
  obtain ⟨a', cap', e, _, _⟩ := h.owns.form
  injection e with e1 e2 e3
  refine (calLen_any B c own now later today s days inD wr h.cal (by omega) (by omega) (by omega)).mono ?_
  rintro e w' ⟨rfl, hb⟩
  refine ⟨?_, hb⟩
  have : (now.length : Int) + inD + later.length = m := by omega
  rw [this]

/-- Pop, in a state whose model has lost the least. -/
theorem lawPop {B c s : Nat} {w : World} {i g k m cap : Nat} {last : Int} {own : Nat → Option Nat} {now later : List Item} {today : Int} {days : Nat → List Item} {inD : Nat} {ml : List Item} {wb : World} (hs : Pow s) (hi : i ≤ 1024) (hB : B ≤ wb.heap.size)
    (g1 : CalAt wb B c own now later today s days inD) (g2 : CalInv now later today s days inD ml (today + 1) (today + s)) (hk : k < ml.length) (hmin : ∀ j, j < ml.length → leI (itemAt ml k) (itemAt ml j)) (ho : Owns wb B (.slice (some ⟨g, 0, none⟩) m cap) (cutAt ml k)) (hg : ¬ Foot own g)
    (h5 : ml.length ≤ i) (h6 : today ≤ 50 + 41 * i) (h9 : ∀ x ∈ ml, -50000000 ≤ x.1 ∧ x.1 ≤ 50000000 + 41000000 * i) (h10 : Below B w wb) :
    Calls Yba.prog 11 #[.pointer (some ⟨c, 0, none⟩)] wb fun e w' => e = .returned (.agg #[.int .i64 (itemAt ml k).1, .int .i64 (itemAt ml k).2]) ∧ St B c s w i (.slice (some ⟨g, 0, none⟩) m cap) (itemAt ml k).1 w' ∧ Keeps (Foot own) wb w' := by
  refine (pop_any (50 + 41 * (i : Int)) B c own now later today s days inD ml wb g1 g2 hs hB (by omega) (fit_of hi h5 h9) h6).mono ?_
  rintro e w' ⟨x, all', rfl, p1, p2, own', now', later', today', days', inD', q1, q2, q3, q4⟩
  have hmem : itemAt ml k ∈ ml := itemAt_mem hk
  have hx : x = itemAt ml k := by
    refine leI_antisymm (p2 _ hmem) ?_
    have hxm : x ∈ ml := p1.mem_iff.2 (by simp)
    obtain ⟨j, hj, e⟩ := List.mem_iff_getElem.1 hxm
    have := hmin j hj
    rw [itemAt_get hj, e] at this
    exact this
  subst hx
  have hcp := cutAt_perm hk
  have hall : all'.Perm (cutAt ml k) := (p1.symm.trans hcp).cons_inv
  have hgw : g < wb.heap.size := (ho.lt g rfl).2
  refine ⟨rfl, ⟨own', now', later', today', days', inD', cutAt ml k, q1, q2.anew hall.symm, ho.keep q4.1 (fun k e => by cases e; exact hg), fun k e => by cases e; exact q4.notOwn hgw hg, by rw [cutAt_length]; omega, q3, (h9 _ hmem).1, (h9 _ hmem).2, fun y hy => h9 y (hcp.mem_iff.2 (List.mem_cons_of_mem _ hy)), ?_⟩, q4.1⟩
  exact h10.trans (q4.1.below hB (fun k _ hf => by obtain ⟨j, hj⟩ := hf; exact (g1.1 j k hj).1))

/-- Between Push and append. -/
structure Mid (B c s : Nat) (w : World) (i : Nat) (v : Value) (last : Int) (p : Item) (ml : List Item) (own : Nat → Option Nat) (now later : List Item) (today : Int) (days : Nat → List Item) (inD : Nat) (wr : World) : Prop where
  cal : CalAt wr B c own now later today s days inD
  inv : CalInv now later today s days inD (p :: ml) (today + 1) (today + s)
  owns : Owns wr B v ml
  apart : ∀ k, v.ownBlock = some k → ¬ Foot own k
  bel : Below B w wr

theorem lawPush {B c s : Nat} {w : World} {i : Nat} {v : Value} {last : Int} {own : Nat → Option Nat} {now later : List Item} {today : Int} {days : Nat → List Item} {inD : Nat} {ml : List Item} {wr : World} (t id0 : Int) (hs : Pow s) (hi : i ≤ 1024) (hB : B ≤ wr.heap.size) (h : StW B c s w i v last own now later today days inD ml wr) (ht1 : -1000000000000000 ≤ t) (ht2 : t ≤ 1000000000000000) :
    Calls Yba.prog 12 #[.pointer (some ⟨c, 0, none⟩), .agg #[.int .i64 t, .int .i64 id0]] wr fun e w' => e = .returned (.tuple #[]) ∧ (∃ own' now' later' days' inD', Mid B c s w i v last (t, id0) ml own' now' later' today days' inD' w') ∧ Keeps (Foot own) wr w' := by
  have hsz := h.inv.size
  have hl := h.len
  have hd := h.day
  have hp := h.inv.pos
  obtain ⟨b1, b2⟩ := hs.bounds
  refine (push_any B c own now later today s days inD t id0 wr h.cal h.inv.hnow h.inv.hlater (by omega) (by omega) (by omega) (fun q hq => by have := h.inv.days_le q hq; omega) hB ht1 ht2 hp (by omega) hs).mono ?_
  rintro e w' ⟨rfl, own', now', later', days', inD', q1, q2, q3⟩
  refine ⟨rfl, ⟨own', now', later', days', inD', q1, h.inv.push b1 (by omega) (by omega) q2, h.owns.keep q3.1 h.apart, fun k e => ?_, ?_⟩, q3.1⟩
  · exact q3.notOwn (h.owns.lt k e).2 (h.apart k e)
  · exact h.bel.trans (q3.1.below hB (fun k _ hf => by obtain ⟨j, hj⟩ := hf; exact (h.cal.1 j k hj).1))

theorem Mid.keep {B c s : Nat} {w : World} {i : Nat} {v : Value} {last : Int} {p : Item} {own : Nat → Option Nat} {now later : List Item} {today : Int} {days : Nat → List Item} {inD : Nat} {ml : List Item} {wr w2 : World} (h : Mid B c s w i v last p ml own now later today days inD wr) (hb : Below wr.heap.size wr w2) (hB : B ≤ wr.heap.size) : Mid B c s w i v last p ml own now later today days inD w2 :=
  ⟨h.cal.keep (S := fun _ => False) (Keeps.of_below hb) (fun _ _ _ h => h), h.inv, h.owns.keep (S := fun _ => False) (Keeps.of_below hb) (fun _ _ h => h), h.apart, h.bel.trans (hb.mono hB)⟩

/-- The append's end. -/
theorem Mid.append {B c s : Nat} {w : World} {i : Nat} {v : Value} {last : Int} {p : Item} {own own1 : Nat → Option Nat} {now later now1 later1 : List Item} {today : Int} {days days1 : Nat → List Item} {inD inD1 : Nat} {ml : List Item} {w0 wr w2 : World} {g cap : Nat} (h : Mid B c s w i v last p ml own now later today days inD wr) (h0 : StW B c s w i v last own1 now1 later1 today days1 inD1 ml w0) (hg : Grew wr w2 B v ml p g cap) (hB : B ≤ wr.heap.size)
    (hp1 : -50000000 ≤ p.1) (hp2 : p.1 ≤ 50000000 + 41000000 * (i + 1)) : St B c s w (i + 1) (.slice (some ⟨g, 0, none⟩) (ml.length + 1) cap) last w2 := by
  obtain ⟨e1, e2, e3, e4, e5⟩ := hg
  have hk : Keeps (fun k => v.ownBlock = some k) wr w2 := (Keeps.refl _ wr).grown e2 (fun k e => Or.inl e)
  have hl := h0.len
  have hd := h0.day
  have l2 := h0.last2
  refine ⟨own, now, later, today, days, inD, ml ++ [p], h.cal.keep hk (fun j k e hs => h.apart k hs ⟨j, e⟩), h.inv.anew List.perm_append_comm, e1, fun k e => ?_, by simp; omega, by omega, h0.last1, by omega, fun x hx => ?_, ?_⟩
  · cases e
    rintro ⟨j, hj⟩
    rcases e3 with e3 | e3
    · exact h.apart g e3 ⟨j, hj⟩
    · have := (h.cal.1 j g hj).2; omega
  · rcases List.mem_append.1 hx with hx | hx
    · have := h0.times x hx
      exact ⟨this.1, by have := this.2; omega⟩
    · simp at hx
      subst hx
      exact ⟨hp1, by omega⟩
  · exact h.bel.trans (hk.below hB (fun k _ e => (h.owns.lt k e).1))

end Go.Proofs.Ybulklfg
