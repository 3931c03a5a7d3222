import Derived.Test.YbulklfgOwn
namespace Go.Proofs.Ybulklfg
open Go.RowKit
set_option linter.unusedVariables false
attribute [local go_sem] Yba.mLess Yba.mTime

theorem ret_bool {a b : Bool} (h : a = b) : Ending.returned (.bool a) = .returned (.bool b) := by rw [h]

set_option maxHeartbeats 400000 in
set_option maxRecDepth 100000 in
theorem less_any (t1 i1 t2 i2 : Int) (w : World) :
    Calls Yba.prog 17 #[.agg #[.int .i64 t1, .int .i64 i1], .agg #[.int .i64 t2, .int .i64 i2]] w fun e w' => e = .returned (.bool (ltB (t1, i1) (t2, i2))) ∧ ∃ c1 c2 : Array Value, w' = (w.alloc (.cells c1 66)).alloc (.cells c2 66) := by
  by_cases h : t1 = t2
  · subst h
    go_enter Yba.func17, Yba.ntmps17
    go_wp2
    go_ret
    exact ⟨ret_bool (by simp [ltB]), _, _, rfl⟩
  · have hb : (t1 != t2) = true := by simp [h]
    go_enter Yba.func17, Yba.ntmps17
    go_wp2
    go_ret
    exact ⟨ret_bool (by simp [ltB, h]), _, _, rfl⟩

set_option maxHeartbeats 400000 in
set_option maxRecDepth 100000 in
theorem hlen_any (c o : Nat) (a : Option Addr) (n cap : Nat) (w : World) (hc : w.cell? ⟨c, o, none⟩ = some (.slice a n cap)) :
    Calls Yba.prog 23 #[.pointer (some ⟨c, o, none⟩)] w fun e w' => e = .returned (.int .i64 n) ∧ w' = w := by
  go_enter Yba.func23, Yba.ntmps23
  go_wp2
  go_ret
  exact ⟨rfl, rfl⟩

set_option maxHeartbeats 400000 in
set_option maxRecDepth 100000 in
theorem htop_any (c o g n cap : Nat) (t i : Int) (w : World) (hc : w.cell? ⟨c, o, none⟩ = some (.slice (some ⟨g, 0, none⟩) n cap)) (hn : 0 < n) (hcw : c < w.heap.size) (hgw : g < w.heap.size)
    (h0 : w.cell? ⟨g, 0, none⟩ = some (.int .i64 t)) (h1 : w.cell? ⟨g, 1, none⟩ = some (.int .i64 i)) :
    Calls Yba.prog 24 #[.pointer (some ⟨c, o, none⟩)] w fun e w' => e = .returned (.agg #[.int .i64 t, .int .i64 i]) ∧ ∃ c1 : Array Value, w' = w.alloc (.cells c1 66) := by
  have hn' : (0 : Int) < (n : Int) := by omega
  go_enter Yba.func24, Yba.ntmps24
  go_wp2
  exact bodyPost_ret (v := .agg #[.int .i64 t, .int .i64 i]) (by simp [results, Yba.results24, go_sem]) rfl ⟨rfl, _, rfl⟩

/-- What the first statement of Push leaves: the item at the row's end. -/
def Pushed (c o B : Nat) (v : Value) (l : List Item) (p : Item) (w w' : World) : Prop :=
  ∃ g cap, w'.cell? ⟨c, o, none⟩ = some (.slice (some ⟨g, 0, none⟩) (l.length + 1) cap) ∧ Owns w' B (.slice (some ⟨g, 0, none⟩) (l.length + 1) cap) (l ++ [p]) ∧ g ≠ c ∧ cap ≤ maxLen ∧
    Keeps (fun k => k = c ∨ v.ownBlock = some k) w w' ∧ (∀ j, j ≠ o → w'.cell? ⟨c, j, none⟩ = w.cell? ⟨c, j, none⟩) ∧ (∀ j, w'.frozen? ⟨c, j, none⟩ = w.frozen? ⟨c, j, none⟩) ∧ (v.ownBlock = some g ∨ w.heap.size ≤ g)

theorem pushed_of {c o B : Nat} {v : Value} {l : List Item} {p : Item} {w w0 w1 : World} {g cap : Nat} (hc : w.cell? ⟨c, o, none⟩ = some v) (hne : v.ownBlock ≠ some c) (hw0 : Below w.heap.size w w0) (hgr : Grew w0 w1 B v l p g cap) :
    Pushed c o B v l p w (w1.setCell ⟨c, o, none⟩ (.slice (some ⟨g, 0, none⟩) (l.length + 1) cap)) := by
  have hcw : c < w.heap.size := World.block_lt_of_cell? w _ hc
  obtain ⟨h1, h2, h3, h4, h5⟩ := hgr
  have hs0 := hw0.size
  have hgc : g ≠ c := by
    intro e
    subst e
    rcases h3 with h3 | h3
    · exact hne h3
    · omega
  have hb1 : w1.heap[c]? = w.heap[c]? := by
    rw [h2.block c (by omega) (Ne.symm hne)]
    exact hw0.block c hcw
  have hc1 : ∀ j, w1.cell? ⟨c, j, none⟩ = w.cell? ⟨c, j, none⟩ := fun j => World.cell?_of_block (a := ⟨c, j, none⟩) hb1
  have hf1 : ∀ j, w1.frozen? ⟨c, j, none⟩ = w.frozen? ⟨c, j, none⟩ := fun j => World.frozen?_of_block (a := ⟨c, j, none⟩) hb1
  have hk : Keeps (fun k => k = c ∨ v.ownBlock = some k) w w1 := (Keeps.of_below hw0).grown h2 (fun k e => Or.inl (Or.inr e))
  refine ⟨g, cap, World.cell?_setCell_same _ _ _ ((hc1 o).trans hc), h1.setOther (fun k e => by cases e; exact hgc) _, hgc, h5, hk.setCell (Or.inl rfl) _, fun j hj => ?_, fun j => ?_, ?_⟩
  · rw [cell_set_ne (Or.inr (Ne.symm hj)), hc1]
  · rw [World.frozen?_setCell, hf1]
  · rcases h3 with h3 | h3
    · exact Or.inl h3
    · exact Or.inr (by omega)

theorem Keeps.over {S : Nat → Prop} {w wc wr : World} {g : Nat} (hk : Keeps S w wc) (hkr : Keeps (fun k => k = g) wc wr) (hnew : S g ∨ w.heap.size ≤ g) : Keeps S w wr := by
  refine ⟨hkr.1.trans hk.1, hkr.2.1.trans hk.2.1, hkr.2.2.1.trans hk.2.2.1, Nat.le_trans hk.size hkr.size, fun k hkw hs => ?_⟩
  rw [hkr.2.2.2.2 k (Nat.lt_of_lt_of_le hkw hk.size) (fun e => by
    subst e
    rcases hnew with h | h
    · exact hs h
    · omega)]
  exact hk.2.2.2.2 k hkw hs

theorem Owns.swap {w : World} {B g n cap : Nat} {l : List Item} (h : Owns w B (.slice (some ⟨g, 0, none⟩) n cap) l) (hn : n = l.length) {i j : Nat} (hi : i < l.length) (hj : j < l.length) :
    Owns ((((w.setCell ⟨g, i * 2, none⟩ (.int .i64 (itemAt l j).1)).setCell ⟨g, i * 2 + 1, none⟩ (.int .i64 (itemAt l j).2)).setCell ⟨g, j * 2, none⟩ (.int .i64 (itemAt l i).1)).setCell ⟨g, j * 2 + 1, none⟩ (.int .i64 (itemAt l i).2)) B (.slice (some ⟨g, 0, none⟩) n cap) (swapI l i j) :=
  (h.store hn hi (itemAt l j)).store (by simpa using hn) (by simpa using hj) (itemAt l i)

theorem push_close {c o B g cap n : Nat} {v : Value} {l l' : List Item} {p : Item} {w wc wr : World} (hk : Keeps (fun k => k = c ∨ v.ownBlock = some k) w wc) (hcell : wc.cell? ⟨c, o, none⟩ = some (.slice (some ⟨g, 0, none⟩) n cap))
    (hcs : ∀ j, j ≠ o → wc.cell? ⟨c, j, none⟩ = w.cell? ⟨c, j, none⟩) (hfs : ∀ j, wc.frozen? ⟨c, j, none⟩ = w.frozen? ⟨c, j, none⟩) (hnew : v.ownBlock = some g ∨ w.heap.size ≤ g) (hgc : g ≠ c) (hkr : Keeps (fun k => k = g) wc wr)
    (hor : Owns wr B (.slice (some ⟨g, 0, none⟩) n cap) l') (hperm : l'.Perm (p :: l)) (hh : IsHeap l') :
    ∃ v' l', wr.cell? ⟨c, o, none⟩ = some v' ∧ Owns wr B v' l' ∧ IsHeap l' ∧ l'.Perm (p :: l) ∧
      Keeps (fun k => k = c ∨ v.ownBlock = some k) w wr ∧ (∀ j, j ≠ o → wr.cell? ⟨c, j, none⟩ = w.cell? ⟨c, j, none⟩) ∧ (∀ j, wr.frozen? ⟨c, j, none⟩ = w.frozen? ⟨c, j, none⟩) ∧ (∀ k, v'.ownBlock = some k → v.ownBlock = some k ∨ w.heap.size ≤ k) := by
  have hcw : c < wc.heap.size := World.block_lt_of_cell? wc _ hcell
  have cell : ∀ j, wr.cell? ⟨c, j, none⟩ = wc.cell? ⟨c, j, none⟩ := fun j => hkr.cell (by exact hcw) (fun e => hgc e.symm)
  have froz : ∀ j, wr.frozen? ⟨c, j, none⟩ = wc.frozen? ⟨c, j, none⟩ := fun j => hkr.frozen (by exact hcw) (fun e => hgc e.symm)
  refine ⟨_, l', (cell o).trans hcell, hor, hh, hperm, hk.over hkr (by rcases hnew with h | h <;> first | exact Or.inl (Or.inr h) | exact Or.inr h), fun j hj => (cell j).trans (hcs j hj), fun j => (froz j).trans (hfs j), fun k e => ?_⟩
  cases e
  exact hnew

set_option maxHeartbeats 1000000 in
set_option maxRecDepth 100000 in
theorem hpush_any (c o B : Nat) (t id : Int) (v : Value) (l : List Item) (w : World) (hc : w.cell? ⟨c, o, none⟩ = some v) (hf : w.frozen? ⟨c, o, none⟩ = false) (ho : Owns w B v l) (hh : IsHeap l) (hn : l.length ≤ 2048) (hne : v.ownBlock ≠ some c) (hBw : B ≤ w.heap.size) :
    Calls Yba.prog 21 #[.pointer (some ⟨c, o, none⟩), .agg #[.int .i64 t, .int .i64 id]] w fun e w' => e = .returned (.tuple #[]) ∧ ∃ v' l', w'.cell? ⟨c, o, none⟩ = some v' ∧ Owns w' B v' l' ∧ IsHeap l' ∧ l'.Perm ((t, id) :: l) ∧
      Keeps (fun k => k = c ∨ v.ownBlock = some k) w w' ∧ (∀ j, j ≠ o → w'.cell? ⟨c, j, none⟩ = w.cell? ⟨c, j, none⟩) ∧ (∀ j, w'.frozen? ⟨c, j, none⟩ = w.frozen? ⟨c, j, none⟩) ∧ (∀ k, v'.ownBlock = some k → v.ownBlock = some k ∨ w.heap.size ≤ k) := by
  have hcw : c < w.heap.size := World.block_lt_of_cell? w _ hc
  have hh0 := hh
  go_enter Yba.func21, Yba.ntmps21
  go_wp2_with fail
  go_cut [] (fun w' => Pushed c o B v l (t, id) w w')
  case first =>
    go_region_law (refine step_push rfl (.tmp 11) (.tmp 13) rfl B v l rfl ((ho.alloc _).alloc _) (w.heap.size + 1) (t, id) rfl (by go_simp) (by go_simp) (by omega) (by simp; omega) ?_; intro g cap w1 hgr; have hc1 : w1.cell? ⟨c, o, none⟩ = some v := hgr.2.1.cell (by go_simp) (by simpa using Ne.symm hne); have hf1 : w1.frozen? ⟨c, o, none⟩ = false := by rw [World.frozen?_of_block (hgr.2.1.block c (by simp; omega) (by simpa using Ne.symm hne))]; go_simp)
    all_goals
      go_wp2_with fail
      go_meet
      case rel => exact pushed_of hc hne ((((Below.refl _ w).alloc (Nat.le_refl _) _).alloc (by simp) _).drew) hgr
  case rest =>
    obtain ⟨g, cap, hcell, hown, hgc, hcm, hk, hcs, hfs, hnew⟩ := hcut
    go_wp2
    clear ho hc hf hh
    go_loopw [5] (fun x wr => ∃ (i : Nat) (l' : List Item), i < l'.length ∧ l'.length = l.length + 1 ∧ x = .int .i64 i ∧ Owns wr B (.slice (some ⟨g, 0, none⟩) (l.length + 1) cap) l' ∧ l'.Perm (l ++ [(t, id)]) ∧ HeapUp l' i ∧ Keeps (fun k => k = g) wc wr) (fun x _ => (intOf x).toNat)
    case atStart => exact ⟨l.length, l ++ [(t, id)], by simp, by simp, rfl, hown, List.Perm.refl _, heapUp_push hh0 _, Keeps.refl _ _⟩
    case round =>
      obtain ⟨i, l', hil, hll, rfl, hor, hperm, hup, hkr⟩ := hrel
      by_cases h0 : i = 0
      · subst h0
        go_wp2
        go_end0
        exact ⟨rfl, push_close hk hcell hcs hfs hnew hgc hkr hor (hperm.trans List.perm_append_comm) (heapUp_end hup hil (Or.inl rfl))⟩
      · obtain ⟨q, hq⟩ : ∃ q, q = (i - 1) / 2 := ⟨_, rfl⟩
        have hqi : q < l'.length := by omega
        have x0 := hor.cell0 hll.symm hil
        have x1 := hor.cell1 hll.symm hil
        have y0 := hor.cell0 hll.symm hqi
        have y1 := hor.cell1 hll.symm hqi
        have hqe : ((i : Int) - 1) / 2 = (q : Int) := by omega
        have HQ := hide hq
        have hqlt : q < i := by omega
        have e1 : itemAt l' i = ((itemAt l' i).1, (itemAt l' i).2) := rfl
        clear hq e1
        have hgw : g < wr.heap.size := World.block_lt_of_cell? wr _ x0
        have b1 : (i : Int) < ((l.length + 1 : Nat) : Int) := by omega
        have b2 : (q : Int) < ((l.length + 1 : Nat) : Int) := by omega
        have b3 : (i : Int) < (l.length : Int) + 1 := by omega
        have b4 : (q : Int) < (l.length : Int) + 1 := by omega
        go_wp2
        rw [hqe]
        clear hqe
        go_region_held3 (fun w' => w'.cell? ⟨g, i * 2, none⟩ = some (.int .i64 (itemAt l' i).1) ∧ w'.cell? ⟨g, i * 2 + 1, none⟩ = some (.int .i64 (itemAt l' i).2) ∧ w'.cell? ⟨g, q * 2, none⟩ = some (.int .i64 (itemAt l' q).1) ∧ w'.cell? ⟨g, q * 2 + 1, none⟩ = some (.int .i64 (itemAt l' q).2)) (first | exact ⟨x0, x1, y0, y1⟩ | (simp [go_sem, World.cell?_alloc_past, *]; done) | (trace_state; fail))
          (first
            | (go_at_call 17; refine (less_any _ _ _ _ _).mono ?_; rintro e w' ⟨rfl, o1, o2, rfl⟩))
        obtain ⟨wd, hwd⟩ : ∃ wd, wd = ((wr.alloc (.cells o1 66)).alloc (.cells o2 66)).drew := ⟨_, rfl⟩
        have hkd : Keeps (fun k => k = g) wc wd := by rw [hwd]; exact ((hkr.alloc _).alloc _).drew
        have hod : Owns wd B (.slice (some ⟨g, 0, none⟩) (l.length + 1) cap) l' := by rw [hwd]; exact (hor.alloc _).alloc _
        rw [← hwd]
        rename_i hheld
        clear hheld hwd x0 x1 y0 y1 hgw
        have x0 := hod.cell0 hll.symm hil
        have x1 := hod.cell1 hll.symm hil
        have y0 := hod.cell0 hll.symm hqi
        have y1 := hod.cell1 hll.symm hqi
        have f0 := hod.unfrozen hll.symm (i * 2)
        have f1 := hod.unfrozen hll.symm (i * 2 + 1)
        have f2 := hod.unfrozen hll.symm (q * 2)
        have f3 := hod.unfrozen hll.symm (q * 2 + 1)
        cases hlt : ltB ((itemAt l' i).fst, (itemAt l' i).snd) ((itemAt l' q).fst, (itemAt l' q).snd) with
        | false =>
          have HL := hide hlt
          clear hlt
          go_wp2
          go_end0
          exact ⟨rfl, push_close hk hcell hcs hfs hnew hgc hkd hod (hperm.trans List.perm_append_comm) (heapUp_end hup hil (Or.inr (by rw [← HQ.out]; exact ltB_false.1 HL.out)))⟩
        | true =>
          have HL := hide hlt
          clear hlt
          go_wp2
          go_region
          go_wp2
          go_roundw
          case rel => exact ⟨q, swapI l' i q, by rw [swapI_length]; exact hqi, by rw [swapI_length]; exact hll, rfl, hod.swap hll.symm hil hqi, (swapI_perm hil hqi).trans hperm, by have := heapUp_swap hup hil (by omega) (ltB_true.1 (by rw [← HQ.out]; exact HL.out)); rwa [← HQ.out] at this, ((((hkd.setCell rfl _).setCell rfl _).setCell rfl _).setCell rfl _).drew⟩
          case measure => simp [intOf]; omega
end Go.Proofs.Ybulklfg
