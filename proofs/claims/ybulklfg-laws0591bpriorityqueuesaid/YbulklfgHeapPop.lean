import Derived.Test.YbulklfgHeap
namespace Go.Proofs.Ybulklfg
open Go.RowKit
set_option linter.unusedVariables false
attribute [local go_sem] Yba.mLess Yba.mTime

theorem Owns.shorter {w : World} {B g n cap : Nat} {l : List Item} (h : Owns w B (.slice (some ⟨g, 0, none⟩) n cap) l) (hn : n = l.length) {k : Nat} (hk : k ≤ n) : Owns w B (.slice (some ⟨g, 0, none⟩) k cap) (l.take k) := by
  subst hn
  obtain ⟨h1, ⟨h2, _⟩ | ⟨g', cap', cur, h2, h3, h4, h5, h6, h7, h8⟩⟩ := h
  · cases h2
  · cases h2
    have hl : (l.take k).length = k := by simp; omega
    refine ⟨by rw [flat_length], Or.inr ⟨g, cap, cur, by rw [hl], h3, h4, by omega, h6, h7, ?_⟩⟩
    rw [hl, flat_take, ← h8, List.take_take]
    congr 1
    omega

theorem Owns.capOf {w : World} {B g n cap : Nat} {l : List Item} (h : Owns w B (.slice (some ⟨g, 0, none⟩) n cap) l) : n ≤ cap ∧ cap ≤ maxLen := by
  obtain ⟨h1, ⟨h2, _⟩ | ⟨g', cap', cur, h2, h3, h4, h5, h6, h7, h8⟩⟩ := h
  · cases h2
  · cases h2; exact ⟨h5, h6⟩

/-- The world as the sift begins: the last item lies on top, the row is one shorter; 'top' lies at N + 1, the result's variable at N. -/
def PopAt (c o B g m cap N : Nat) (l : List Item) (w w1 : World) : Prop :=
  w1.cell? ⟨c, o, none⟩ = some (.slice (some ⟨g, 0, none⟩) m cap) ∧ Owns w1 B (.slice (some ⟨g, 0, none⟩) m cap) ((l.set 0 (itemAt l m)).take m) ∧ Keeps (fun k => k = c ∨ k = g) w w1 ∧
  (∀ j, j ≠ o → w1.cell? ⟨c, j, none⟩ = w.cell? ⟨c, j, none⟩) ∧ (∀ j, w1.frozen? ⟨c, j, none⟩ = w.frozen? ⟨c, j, none⟩) ∧
  w1.cell? ⟨N + 1, 0, none⟩ = some (.int .i64 (itemAt l 0).1) ∧ w1.cell? ⟨N + 1, 1, none⟩ = some (.int .i64 (itemAt l 0).2) ∧ w1.cell? ⟨N, 0, none⟩ = some (.int .i64 0) ∧ w1.cell? ⟨N, 1, none⟩ = some (.int .i64 0) ∧ (∀ j, w1.frozen? ⟨N, j, none⟩ = false) ∧ N + 1 < w1.heap.size

theorem popAt_of {c o B g m cap : Nat} {l : List Item} {w : World} (hc : w.cell? ⟨c, o, none⟩ = some (.slice (some ⟨g, 0, none⟩) (m + 1) cap)) (ho : Owns w B (.slice (some ⟨g, 0, none⟩) (m + 1) cap) l) (hln : m + 1 = l.length) (hgc : g ≠ c) :
    PopAt c o B g m cap w.heap.size l w ((((((((w.setCell ⟨g, 0, none⟩ (.int .i64 (itemAt l m).1)).setCell ⟨g, 1, none⟩ (.int .i64 (itemAt l m).2)).setCell ⟨g, m * 2, none⟩ (.int .i64 0)).setCell ⟨g, m * 2 + 1, none⟩ (.int .i64 0)).setCell ⟨c, o, none⟩ (.slice (some ⟨g, 0, none⟩) m cap)).alloc
      (.cells #[.int .i64 0, .int .i64 0] 66)).alloc (.cells #[.int .i64 (itemAt l 0).1, .int .i64 (itemAt l 0).2] 66)).alloc (.cells #[.int .i64 0, .int .i64 0] 66)) := by
  have hcw : c < w.heap.size := World.block_lt_of_cell? w _ hc
  have s1 := ho.store hln (j := 0) (by omega) (itemAt l m)
  have s2 := s1.store (by simpa using hln) (j := m) (by simp; omega) (0, 0)
  have s3 := (s2.shorter (by simpa using hln) (k := m) (by omega)).setOther (a := ⟨c, o, none⟩) (fun k e => by cases e; exact hgc) (.slice (some ⟨g, 0, none⟩) m cap)
  have e1 : ((l.set 0 (itemAt l m)).set m (0, 0)).take m = (l.set 0 (itemAt l m)).take m := by
    rw [List.take_set_of_le (Nat.le_refl _)]
  rw [e1] at s3
  simp only [Nat.zero_mul, Nat.zero_add] at s3
  obtain ⟨w4, hw4⟩ : ∃ w4, w4 = (((w.setCell ⟨g, 0, none⟩ (.int .i64 (itemAt l m).1)).setCell ⟨g, 1, none⟩ (.int .i64 (itemAt l m).2)).setCell ⟨g, m * 2, none⟩ (.int .i64 0)).setCell ⟨g, m * 2 + 1, none⟩ (.int .i64 0) := ⟨_, rfl⟩
  have hk4 : Keeps (fun k => k = c ∨ k = g) w w4 := by
    rw [hw4]
    have k0 : Keeps (fun k => k = c ∨ k = g) w w := Keeps.refl _ w
    exact (((k0.setCell (Or.inr rfl) _).setCell (Or.inr rfl) _).setCell (Or.inr rfl) _).setCell (Or.inr rfl) _
  have hkg : Keeps (fun k => k = g) w w4 := by
    rw [hw4]
    have k0 : Keeps (fun k => k = g) w w := Keeps.refl _ w
    exact (((k0.setCell rfl _).setCell rfl _).setCell rfl _).setCell rfl _
  have hz4 : w4.heap.size = w.heap.size := by rw [hw4]; simp
  rw [← hw4] at s3 ⊢
  have cell4 : ∀ j, w4.cell? ⟨c, j, none⟩ = w.cell? ⟨c, j, none⟩ := fun j => hkg.cell (by exact hcw) (fun e => hgc e.symm)
  have froz4 : ∀ j, w4.frozen? ⟨c, j, none⟩ = w.frozen? ⟨c, j, none⟩ := fun j => hkg.frozen (by exact hcw) (fun e => hgc e.symm)
  clear hw4
  obtain ⟨w5, hw5⟩ : ∃ w5, w5 = w4.setCell ⟨c, o, none⟩ (.slice (some ⟨g, 0, none⟩) m cap) := ⟨_, rfl⟩
  have hz5 : w5.heap.size = w.heap.size := by rw [hw5]; simpa using hz4
  have co : w5.cell? ⟨c, o, none⟩ = some (.slice (some ⟨g, 0, none⟩) m cap) := by rw [hw5]; exact World.cell?_setCell_same _ _ _ ((cell4 o).trans hc)
  have cj : ∀ j, j ≠ o → w5.cell? ⟨c, j, none⟩ = w.cell? ⟨c, j, none⟩ := fun j hj => by rw [hw5, cell_set_ne (Or.inr (Ne.symm hj))]; exact cell4 j
  have fj : ∀ j, w5.frozen? ⟨c, j, none⟩ = w.frozen? ⟨c, j, none⟩ := fun j => by rw [hw5, World.frozen?_setCell]; exact froz4 j
  have hk5 : Keeps (fun k => k = c ∨ k = g) w w5 := by rw [hw5]; exact hk4.setCell (Or.inl rfl) _
  rw [← hw5] at s3 ⊢
  clear hw5
  have b5 : ∀ (o1 o2 o3 : Obj), Below w5.heap.size w5 (((w5.alloc o1).alloc o2).alloc o3) := fun o1 o2 o3 => (((Below.refl _ w5).alloc (Nat.le_refl _) o1).alloc (by simp) o2).alloc (by simp; omega) o3
  rw [← hz5]
  refine ⟨?_, ((s3.alloc _).alloc _).alloc _, ((hk5.alloc _).alloc _).alloc _, fun j hj => ?_, fun j => ?_, by go_simp, by go_simp, by go_simp, by go_simp, fun j => by go_simp, by simp⟩
  · rw [(b5 _ _ _).cell (by show c < _; omega)]; exact co
  · rw [(b5 _ _ _).cell (by show c < _; omega)]; exact cj j hj
  · rw [(b5 _ _ _).frozen (by show c < _; omega)]; exact fj j

theorem pop_close {c o B g m cap : Nat} {l l' : List Item} {w wc wr : World} {u0 u1 : Value} (hcw : c < w.heap.size) (hgw : g < w.heap.size) (hgc : g ≠ c) (p1 : wc.cell? ⟨c, o, none⟩ = some (.slice (some ⟨g, 0, none⟩) m cap)) (p3 : Keeps (fun k => k = c ∨ k = g) w wc)
    (p4 : ∀ j, j ≠ o → wc.cell? ⟨c, j, none⟩ = w.cell? ⟨c, j, none⟩) (p5 : ∀ j, wc.frozen? ⟨c, j, none⟩ = w.frozen? ⟨c, j, none⟩) (hln : m + 1 = l.length)
    (hkr : Keeps (fun k => k = g) wc wr) (hor : Owns wr B (.slice (some ⟨g, 0, none⟩) m cap) l') (hlm : l'.length = m) (hperm : l'.Perm ((l.set 0 (itemAt l m)).take m)) (hh : IsHeap l') :
    ∃ l', ((wr.setCell ⟨w.heap.size, 0, none⟩ u0).setCell ⟨w.heap.size, 1, none⟩ u1).cell? ⟨c, o, none⟩ = some (.slice (some ⟨g, 0, none⟩) m cap) ∧ Owns ((wr.setCell ⟨w.heap.size, 0, none⟩ u0).setCell ⟨w.heap.size, 1, none⟩ u1) B (.slice (some ⟨g, 0, none⟩) m cap) l' ∧ l'.length = m ∧ IsHeap l' ∧ l.Perm (itemAt l 0 :: l') ∧
      Keeps (fun k => k = c ∨ k = g) w ((wr.setCell ⟨w.heap.size, 0, none⟩ u0).setCell ⟨w.heap.size, 1, none⟩ u1) ∧ (∀ j, j ≠ o → ((wr.setCell ⟨w.heap.size, 0, none⟩ u0).setCell ⟨w.heap.size, 1, none⟩ u1).cell? ⟨c, j, none⟩ = w.cell? ⟨c, j, none⟩) ∧ (∀ j, ((wr.setCell ⟨w.heap.size, 0, none⟩ u0).setCell ⟨w.heap.size, 1, none⟩ u1).frozen? ⟨c, j, none⟩ = w.frozen? ⟨c, j, none⟩) := by
  have hcc : c < wc.heap.size := Nat.lt_of_lt_of_le hcw p3.size
  have cell : ∀ j, ((wr.setCell ⟨w.heap.size, 0, none⟩ u0).setCell ⟨w.heap.size, 1, none⟩ u1).cell? ⟨c, j, none⟩ = wc.cell? ⟨c, j, none⟩ := fun j => by
    rw [cell_set_ne (Or.inl (by omega)), cell_set_ne (Or.inl (by omega))]
    exact hkr.cell (by exact hcc) (fun e => hgc e.symm)
  have froz : ∀ j, ((wr.setCell ⟨w.heap.size, 0, none⟩ u0).setCell ⟨w.heap.size, 1, none⟩ u1).frozen? ⟨c, j, none⟩ = wc.frozen? ⟨c, j, none⟩ := fun j => by
    rw [World.frozen?_setCell, World.frozen?_setCell]
    exact hkr.frozen (by exact hcc) (fun e => hgc e.symm)
  refine ⟨l', (cell o).trans p1, ?_, hlm, hh, ?_, ?_, fun j hj => (cell j).trans (p4 j hj), fun j => (froz j).trans (p5 j)⟩
  · exact (hor.setOther (a := ⟨w.heap.size, 0, none⟩) (fun k e => by cases e; show g ≠ w.heap.size; omega) _).setOther (a := ⟨w.heap.size, 1, none⟩) (fun k e => by cases e; show g ≠ w.heap.size; omega) _
  · have := pop_perm (l := l) (by omega)
    rw [show l.length - 1 = m by omega] at this
    exact this.trans (List.Perm.cons _ hperm.symm)
  · exact ((p3.over hkr (Or.inl (Or.inr rfl))).setNew (by show w.heap.size ≤ w.heap.size; omega) _).setNew (by show w.heap.size ≤ w.heap.size; omega) _

set_option maxHeartbeats 1000000 in
set_option maxRecDepth 100000 in
theorem hpop_any (c o B g n cap : Nat) (l : List Item) (w : World) (hc : w.cell? ⟨c, o, none⟩ = some (.slice (some ⟨g, 0, none⟩) n cap)) (hf : w.frozen? ⟨c, o, none⟩ = false) (ho : Owns w B (.slice (some ⟨g, 0, none⟩) n cap) l) (hln : n = l.length) (hpos : 0 < n) (hh : IsHeap l) (hn : n ≤ 2048) (hgc : g ≠ c) :
    Calls Yba.prog 19 #[.pointer (some ⟨c, o, none⟩)] w fun e w' => e = .returned (.agg #[.int .i64 (itemAt l 0).1, .int .i64 (itemAt l 0).2]) ∧ ∃ l', w'.cell? ⟨c, o, none⟩ = some (.slice (some ⟨g, 0, none⟩) (n - 1) cap) ∧ Owns w' B (.slice (some ⟨g, 0, none⟩) (n - 1) cap) l' ∧ l'.length = n - 1 ∧ IsHeap l' ∧ l.Perm (itemAt l 0 :: l') ∧
      Keeps (fun k => k = c ∨ k = g) w w' ∧ (∀ j, j ≠ o → w'.cell? ⟨c, j, none⟩ = w.cell? ⟨c, j, none⟩) ∧ (∀ j, w'.frozen? ⟨c, j, none⟩ = w.frozen? ⟨c, j, none⟩) := by
  have hcw : c < w.heap.size := World.block_lt_of_cell? w _ hc
  obtain ⟨m, rfl⟩ : ∃ m, n = m + 1 := ⟨n - 1, by omega⟩
  have hgw : g < w.heap.size := (ho.lt g rfl).2
  have x0 : w.cell? ⟨g, 0, none⟩ = some (.int .i64 (itemAt l 0).1) := by simpa using ho.cell0 hln (j := 0) (by omega)
  have x1 : w.cell? ⟨g, 1, none⟩ = some (.int .i64 (itemAt l 0).2) := by simpa using ho.cell1 hln (j := 0) (by omega)
  have y0 := ho.cell0 hln (j := m) (by omega)
  have y1 := ho.cell1 hln (j := m) (by omega)
  have f0 : w.frozen? ⟨g, 0, none⟩ = false := ho.unfrozen hln 0
  have f1 : w.frozen? ⟨g, 1, none⟩ = false := ho.unfrozen hln 1
  have f2 := ho.unfrozen hln (m * 2)
  have f3 := ho.unfrozen hln (m * 2 + 1)
  have HLN := hide hln
  clear hln
  have g1 : g < w.heap.size + 1 := by omega
  have g2 : g < w.heap.size + 1 + 1 := by omega
  have g3 : g < w.heap.size + 1 + 1 + 1 := by omega
  have c1 : c < w.heap.size + 1 := by omega
  have c2 : c < w.heap.size + 1 + 1 := by omega
  have c3 : c < w.heap.size + 1 + 1 + 1 := by omega
  have hcap := ho.capOf.1
  have HH := hide hh
  have HC0 := hide hc
  have HO0 := hide ho
  by_cases hm : m = 0
  · subst hm
    go_enter Yba.func19, Yba.ntmps19
    go_upto_region 9 with fail
    go_cut [7] (fun x w' => x = .int .i64 0 ∧ PopAt c o B g 0 cap w.heap.size l w w')
    case first =>
      go_wp2_with fail
      go_meet
      case rel => exact ⟨rfl, popAt_of HC0.out HO0.out HLN.out hgc⟩
    case rest =>
      obtain ⟨rfl, p1, p2, p3, p4, p5, p6, p7, p8, p9, p10, p11⟩ := hcut
      clear hc hf ho hh x0 x1 y0 y1 f0 f1 f2 f3
      go_wp2_with fail
      go_loopw [7] (fun x wr => x = .int .i64 0 ∧ wr = wc) (fun _ _ => 0)
      case atStart => exact ⟨rfl, rfl⟩
      case round =>
        obtain ⟨rfl, rfl⟩ := hrel
        have q10 := p10 0
        have q11 := p10 1
        have P4 := hide p4
        have P5 := hide p5
        have P10 := hide p10
        clear p4 p5 p10
        go_wp2
        go_quiet (fail)
        go_wp2
        go_quiet (fail)
        go_wp2
        rename_i na nb
        exact bodyPost_ret (v := .agg #[.int .i64 (itemAt l 0).1, .int .i64 (itemAt l 0).2]) (by simp [results, Yba.results19, go_sem, p8, p9]) rfl ⟨rfl, pop_close hcw hgw hgc p1 p3 P4.out P5.out HLN.out (Keeps.drewN (Keeps.refl _ _) _) p2 (by simp) (List.Perm.refl _) (fun j _ h => by simp at h)⟩
  · go_enter Yba.func19, Yba.ntmps19
    go_upto_region 9 with fail
    go_cut [7] (fun x w' => x = .int .i64 0 ∧ PopAt c o B g m cap w.heap.size l w w')
    case first =>
      go_wp2_with fail
      go_meet
      case rel => exact ⟨rfl, popAt_of HC0.out HO0.out HLN.out hgc⟩
    case rest =>
      obtain ⟨rfl, p1, p2, p3, p4, p5, p6, p7, p8, p9, p10, p11⟩ := hcut
      clear hc hf ho hh x0 x1 y0 y1 f0 f1 f2 f3
      go_wp2_with fail
      go_loopw [7] (fun x wr => ∃ (i : Nat) (l' : List Item), i < m ∧ l'.length = m ∧ x = .int .i64 i ∧ Owns wr B (.slice (some ⟨g, 0, none⟩) m cap) l' ∧ l'.Perm ((l.set 0 (itemAt l m)).take m) ∧ HeapDown l' i ∧ Keeps (fun k => k = g) wc wr) (fun x _ => m - (intOf x).toNat)
      case atStart => exact ⟨0, (l.set 0 (itemAt l m)).take m, by omega, by have := HLN.out; simp; omega, rfl, p2, List.Perm.refl _, by have := heapDown_pop HH.out (itemAt l m); rwa [show l.length - 1 = m by have := HLN.out; omega] at this, Keeps.refl _ _⟩
      case round =>
        obtain ⟨i, l', him, hlm, rfl, hor, hperm, hdn, hkr⟩ := hrel
        have HLM := hide hlm
        clear hlm p2
        have P4 := hide p4
        have P5 := hide p5
        have P10 := hide p10
        clear p4 p5 p10
        have hkwr := hkr
        have howr := hor
        clear hkr hor
        have hsz := hkwr.size
        have r6 : wr.cell? ⟨w.heap.size + 1, 0, none⟩ = some (.int .i64 (itemAt l 0).1) := (hkwr.cell (by show w.heap.size + 1 < _; omega) (by show ¬ w.heap.size + 1 = g; omega)).trans p6
        have r7 : wr.cell? ⟨w.heap.size + 1, 1, none⟩ = some (.int .i64 (itemAt l 0).2) := (hkwr.cell (by show w.heap.size + 1 < _; omega) (by show ¬ w.heap.size + 1 = g; omega)).trans p7
        have r8 : wr.cell? ⟨w.heap.size, 0, none⟩ = some (.int .i64 0) := (hkwr.cell (by show w.heap.size < _; omega) (by show ¬ w.heap.size = g; omega)).trans p8
        have r9 : wr.cell? ⟨w.heap.size, 1, none⟩ = some (.int .i64 0) := (hkwr.cell (by show w.heap.size < _; omega) (by show ¬ w.heap.size = g; omega)).trans p9
        have r10 : wr.frozen? ⟨w.heap.size, 0, none⟩ = false := (hkwr.frozen (by show w.heap.size < _; omega) (by show ¬ w.heap.size = g; omega)).trans (P10.out 0)
        have r11 : wr.frozen? ⟨w.heap.size, 1, none⟩ = false := (hkwr.frozen (by show w.heap.size < _; omega) (by show ¬ w.heap.size = g; omega)).trans (P10.out 1)
        have hgr : g < wr.heap.size := (howr.lt g rfl).2
        obtain ⟨q, hq⟩ : ∃ q, q = 2 * i + 1 := ⟨_, rfl⟩
        obtain ⟨r, hr⟩ : ∃ r, r = 2 * i + 1 + 1 := ⟨_, rfl⟩
        have hq1 : q ≤ 2 * i + 1 := by omega
        have hq2 : 2 * i + 1 ≤ q := by omega
        have hr1 : r ≤ 2 * i + 1 + 1 := by omega
        have hr2 : 2 * i + 1 + 1 ≤ r := by omega
        have HQE : Hid (2 * (i : Int) + 1 = (q : Int)) := (by omega : 2 * (i : Int) + 1 = (q : Int))
        have HRE : Hid ((q : Int) + 1 = (r : Int)) := (by omega : (q : Int) + 1 = (r : Int))
        have HQ := hide hq
        have HR := hide hr
        clear hq hr
        by_cases hL : q < m
        · have x0 := howr.cell0 HLM.out.symm (j := q) (by have := HLM.out; omega)
          have x1 := howr.cell1 HLM.out.symm (j := q) (by have := HLM.out; omega)
          have y0 := howr.cell0 HLM.out.symm (j := i) (by have := HLM.out; omega)
          have y1 := howr.cell1 HLM.out.symm (j := i) (by have := HLM.out; omega)
          have b1 : (q : Int) < (m : Int) := by omega
          have b2 : (i : Int) < (m : Int) := by omega
          go_wp2
          rw [HQE.out]
          go_region_held3 (fun w' => w'.cell? ⟨g, q * 2, none⟩ = some (.int .i64 (itemAt l' q).1) ∧ w'.cell? ⟨g, q * 2 + 1, none⟩ = some (.int .i64 (itemAt l' q).2) ∧ w'.cell? ⟨g, i * 2, none⟩ = some (.int .i64 (itemAt l' i).1) ∧ w'.cell? ⟨g, i * 2 + 1, none⟩ = some (.int .i64 (itemAt l' i).2)) (first | exact ⟨x0, x1, y0, y1⟩ | (simp [go_sem, World.cell?_alloc_past, *]; done))
            (first | (go_at_call 17; refine (less_any _ _ _ _ _).mono ?_; rintro e w' ⟨rfl, o1, o2, rfl⟩))
          obtain ⟨wd, hwd⟩ : ∃ wx, wx = ((wr.alloc (.cells o1 66)).alloc (.cells o2 66)).drew := ⟨_, rfl⟩
          have hkwd : Keeps (fun k => k = g) wc wd := by rw [hwd]; exact ((hkwr.alloc _).alloc _).drew
          have howd : Owns wd B (.slice (some ⟨g, 0, none⟩) m cap) l' := by rw [hwd]; exact (howr.alloc _).alloc _
          rw [← hwd]
          rename_i hheld
          clear hheld hwd
          have r6 : wd.cell? ⟨w.heap.size + 1, 0, none⟩ = some (.int .i64 (itemAt l 0).1) := (hkwd.cell (by show w.heap.size + 1 < _; omega) (by show ¬ w.heap.size + 1 = g; omega)).trans p6
          have r7 : wd.cell? ⟨w.heap.size + 1, 1, none⟩ = some (.int .i64 (itemAt l 0).2) := (hkwd.cell (by show w.heap.size + 1 < _; omega) (by show ¬ w.heap.size + 1 = g; omega)).trans p7
          have r8 : wd.cell? ⟨w.heap.size, 0, none⟩ = some (.int .i64 0) := (hkwd.cell (by show w.heap.size < _; omega) (by show ¬ w.heap.size = g; omega)).trans p8
          have r9 : wd.cell? ⟨w.heap.size, 1, none⟩ = some (.int .i64 0) := (hkwd.cell (by show w.heap.size < _; omega) (by show ¬ w.heap.size = g; omega)).trans p9
          have r10 : wd.frozen? ⟨w.heap.size, 0, none⟩ = false := (hkwd.frozen (by show w.heap.size < _; omega) (by show ¬ w.heap.size = g; omega)).trans (P10.out 0)
          have r11 : wd.frozen? ⟨w.heap.size, 1, none⟩ = false := (hkwd.frozen (by show w.heap.size < _; omega) (by show ¬ w.heap.size = g; omega)).trans (P10.out 1)
          have hgd : g < wd.heap.size := (howd.lt g rfl).2
          clear x0 x1 y0 y1
          cases hlt : ltB ((itemAt l' q).fst, (itemAt l' q).snd) ((itemAt l' i).fst, (itemAt l' i).snd) with
          | false =>
            have HLT := hide hlt
            clear hlt
            by_cases hR : r < m
            · have x0 := howd.cell0 HLM.out.symm (j := r) (by have := HLM.out; omega)
              have x1 := howd.cell1 HLM.out.symm (j := r) (by have := HLM.out; omega)
              have y0 := howd.cell0 HLM.out.symm (j := i) (by have := HLM.out; omega)
              have y1 := howd.cell1 HLM.out.symm (j := i) (by have := HLM.out; omega)
              have b3 : (r : Int) < (m : Int) := by omega
              go_wp2
              rw [HRE.out]
              go_region_held3 (fun w' => w'.cell? ⟨g, r * 2, none⟩ = some (.int .i64 (itemAt l' r).1) ∧ w'.cell? ⟨g, r * 2 + 1, none⟩ = some (.int .i64 (itemAt l' r).2) ∧ w'.cell? ⟨g, i * 2, none⟩ = some (.int .i64 (itemAt l' i).1) ∧ w'.cell? ⟨g, i * 2 + 1, none⟩ = some (.int .i64 (itemAt l' i).2)) (first | exact ⟨x0, x1, y0, y1⟩ | (simp [go_sem, World.cell?_alloc_past, *]; done))
                (first | (go_at_call 17; refine (less_any _ _ _ _ _).mono ?_; rintro e w' ⟨rfl, o1, o2, rfl⟩))
              obtain ⟨we, hwd⟩ : ∃ wx, wx = ((wd.alloc (.cells o1 66)).alloc (.cells o2 66)).drew := ⟨_, rfl⟩
              have hkwe : Keeps (fun k => k = g) wc we := by rw [hwd]; exact ((hkwd.alloc _).alloc _).drew
              have howe : Owns we B (.slice (some ⟨g, 0, none⟩) m cap) l' := by rw [hwd]; exact (howd.alloc _).alloc _
              rw [← hwd]
              rename_i hheld
              clear hheld hwd
              have r6 : we.cell? ⟨w.heap.size + 1, 0, none⟩ = some (.int .i64 (itemAt l 0).1) := (hkwe.cell (by show w.heap.size + 1 < _; omega) (by show ¬ w.heap.size + 1 = g; omega)).trans p6
              have r7 : we.cell? ⟨w.heap.size + 1, 1, none⟩ = some (.int .i64 (itemAt l 0).2) := (hkwe.cell (by show w.heap.size + 1 < _; omega) (by show ¬ w.heap.size + 1 = g; omega)).trans p7
              have r8 : we.cell? ⟨w.heap.size, 0, none⟩ = some (.int .i64 0) := (hkwe.cell (by show w.heap.size < _; omega) (by show ¬ w.heap.size = g; omega)).trans p8
              have r9 : we.cell? ⟨w.heap.size, 1, none⟩ = some (.int .i64 0) := (hkwe.cell (by show w.heap.size < _; omega) (by show ¬ w.heap.size = g; omega)).trans p9
              have r10 : we.frozen? ⟨w.heap.size, 0, none⟩ = false := (hkwe.frozen (by show w.heap.size < _; omega) (by show ¬ w.heap.size = g; omega)).trans (P10.out 0)
              have r11 : we.frozen? ⟨w.heap.size, 1, none⟩ = false := (hkwe.frozen (by show w.heap.size < _; omega) (by show ¬ w.heap.size = g; omega)).trans (P10.out 1)
              clear x0 x1 y0 y1
              cases hl2 : ltB ((itemAt l' r).fst, (itemAt l' r).snd) ((itemAt l' i).fst, (itemAt l' i).snd) with
              | false =>
                have HL2 := hide hl2
                clear hl2
                go_wp2
                exact bodyPost_ret (v := .agg #[.int .i64 (itemAt l 0).1, .int .i64 (itemAt l 0).2]) (by simp [results, Yba.results19, go_sem, *]) rfl ⟨rfl, pop_close hcw hgw hgc p1 p3 P4.out P5.out HLN.out hkwe howe HLM.out hperm (heapDown_end hdn (fun _ => by rw [← HQ.out]; exact ltB_false.1 HLT.out) (fun _ => by rw [← HR.out]; exact ltB_false.1 HL2.out))⟩
              | true =>
                have HL2 := hide hl2
                clear hl2
                have sx0 := howe.cell0 HLM.out.symm (j := i) (by have := HLM.out; omega)
                have sx1 := howe.cell1 HLM.out.symm (j := i) (by have := HLM.out; omega)
                have sy0 := howe.cell0 HLM.out.symm (j := r) (by have := HLM.out; omega)
                have sy1 := howe.cell1 HLM.out.symm (j := r) (by have := HLM.out; omega)
                have sf0 := howe.unfrozen HLM.out.symm (i * 2)
                have sf1 := howe.unfrozen HLM.out.symm (i * 2 + 1)
                have sf2 := howe.unfrozen HLM.out.symm (r * 2)
                have sf3 := howe.unfrozen HLM.out.symm (r * 2 + 1)
                go_wp2
                go_region
                go_wp2
                go_roundw
                case rel => exact ⟨r, swapI l' i r, by omega, by rw [swapI_length]; exact HLM.out, by go_num, howe.swap HLM.out.symm (by have := HLM.out; omega) (by have := HLM.out; omega), (swapI_perm (by have := HLM.out; omega) (by have := HLM.out; omega)).trans hperm, heapDown_swap hdn (by have := HLM.out; omega) (Or.inr HR.out) (ltB_true.1 HL2.out) (fun _ => by rw [← HQ.out]; exact leI_trans (leI_of_lt (ltB_true.1 HL2.out)) (ltB_false.1 HLT.out)) (fun _ => by rw [← HR.out]; exact leI_refl _), ((((hkwe.setCell rfl _).setCell rfl _).setCell rfl _).setCell rfl _).drew⟩
                case measure => simp [intOf]; omega

            · have gR : decide ((r : Int) < (m : Int)) = false := by simp; omega
              go_wp2
              rw [HRE.out]
              go_quiet (fail)
              go_wp2
              exact bodyPost_ret (v := .agg #[.int .i64 (itemAt l 0).1, .int .i64 (itemAt l 0).2]) (by simp [results, Yba.results19, go_sem, *]) rfl ⟨rfl, pop_close hcw hgw hgc p1 p3 P4.out P5.out HLN.out (Keeps.drewN hkwd _) howd HLM.out hperm (heapDown_end hdn (fun _ => by rw [← HQ.out]; exact ltB_false.1 HLT.out) (fun h => absurd h (by have := HLM.out; omega)))⟩

          | true =>
            have HLT := hide hlt
            clear hlt
            by_cases hR : r < m
            · have x0 := howd.cell0 HLM.out.symm (j := r) (by have := HLM.out; omega)
              have x1 := howd.cell1 HLM.out.symm (j := r) (by have := HLM.out; omega)
              have y0 := howd.cell0 HLM.out.symm (j := q) (by have := HLM.out; omega)
              have y1 := howd.cell1 HLM.out.symm (j := q) (by have := HLM.out; omega)
              have b3 : (r : Int) < (m : Int) := by omega
              go_wp2
              rw [HRE.out]
              go_region_held3 (fun w' => w'.cell? ⟨g, r * 2, none⟩ = some (.int .i64 (itemAt l' r).1) ∧ w'.cell? ⟨g, r * 2 + 1, none⟩ = some (.int .i64 (itemAt l' r).2) ∧ w'.cell? ⟨g, q * 2, none⟩ = some (.int .i64 (itemAt l' q).1) ∧ w'.cell? ⟨g, q * 2 + 1, none⟩ = some (.int .i64 (itemAt l' q).2)) (first | exact ⟨x0, x1, y0, y1⟩ | (simp [go_sem, World.cell?_alloc_past, *]; done))
                (first | (go_at_call 17; refine (less_any _ _ _ _ _).mono ?_; rintro e w' ⟨rfl, o1, o2, rfl⟩))
              obtain ⟨we, hwd⟩ : ∃ wx, wx = ((wd.alloc (.cells o1 66)).alloc (.cells o2 66)).drew := ⟨_, rfl⟩
              have hkwe : Keeps (fun k => k = g) wc we := by rw [hwd]; exact ((hkwd.alloc _).alloc _).drew
              have howe : Owns we B (.slice (some ⟨g, 0, none⟩) m cap) l' := by rw [hwd]; exact (howd.alloc _).alloc _
              rw [← hwd]
              rename_i hheld
              clear hheld hwd
              have r6 : we.cell? ⟨w.heap.size + 1, 0, none⟩ = some (.int .i64 (itemAt l 0).1) := (hkwe.cell (by show w.heap.size + 1 < _; omega) (by show ¬ w.heap.size + 1 = g; omega)).trans p6
              have r7 : we.cell? ⟨w.heap.size + 1, 1, none⟩ = some (.int .i64 (itemAt l 0).2) := (hkwe.cell (by show w.heap.size + 1 < _; omega) (by show ¬ w.heap.size + 1 = g; omega)).trans p7
              have r8 : we.cell? ⟨w.heap.size, 0, none⟩ = some (.int .i64 0) := (hkwe.cell (by show w.heap.size < _; omega) (by show ¬ w.heap.size = g; omega)).trans p8
              have r9 : we.cell? ⟨w.heap.size, 1, none⟩ = some (.int .i64 0) := (hkwe.cell (by show w.heap.size < _; omega) (by show ¬ w.heap.size = g; omega)).trans p9
              have r10 : we.frozen? ⟨w.heap.size, 0, none⟩ = false := (hkwe.frozen (by show w.heap.size < _; omega) (by show ¬ w.heap.size = g; omega)).trans (P10.out 0)
              have r11 : we.frozen? ⟨w.heap.size, 1, none⟩ = false := (hkwe.frozen (by show w.heap.size < _; omega) (by show ¬ w.heap.size = g; omega)).trans (P10.out 1)
              clear x0 x1 y0 y1
              cases hl2 : ltB ((itemAt l' r).fst, (itemAt l' r).snd) ((itemAt l' q).fst, (itemAt l' q).snd) with
              | false =>
                have HL2 := hide hl2
                clear hl2
                have sx0 := howe.cell0 HLM.out.symm (j := i) (by have := HLM.out; omega)
                have sx1 := howe.cell1 HLM.out.symm (j := i) (by have := HLM.out; omega)
                have sy0 := howe.cell0 HLM.out.symm (j := q) (by have := HLM.out; omega)
                have sy1 := howe.cell1 HLM.out.symm (j := q) (by have := HLM.out; omega)
                have sf0 := howe.unfrozen HLM.out.symm (i * 2)
                have sf1 := howe.unfrozen HLM.out.symm (i * 2 + 1)
                have sf2 := howe.unfrozen HLM.out.symm (q * 2)
                have sf3 := howe.unfrozen HLM.out.symm (q * 2 + 1)
                go_wp2
                go_region
                go_wp2
                go_roundw
                case rel => exact ⟨q, swapI l' i q, by omega, by rw [swapI_length]; exact HLM.out, by go_num, howe.swap HLM.out.symm (by have := HLM.out; omega) (by have := HLM.out; omega), (swapI_perm (by have := HLM.out; omega) (by have := HLM.out; omega)).trans hperm, heapDown_swap hdn (by have := HLM.out; omega) (Or.inl HQ.out) (ltB_true.1 HLT.out) (fun _ => by rw [← HQ.out]; exact leI_refl _) (fun _ => by rw [← HR.out]; exact ltB_false.1 HL2.out), ((((hkwe.setCell rfl _).setCell rfl _).setCell rfl _).setCell rfl _).drew⟩
                case measure => simp [intOf]; omega
              | true =>
                have HL2 := hide hl2
                clear hl2
                have sx0 := howe.cell0 HLM.out.symm (j := i) (by have := HLM.out; omega)
                have sx1 := howe.cell1 HLM.out.symm (j := i) (by have := HLM.out; omega)
                have sy0 := howe.cell0 HLM.out.symm (j := r) (by have := HLM.out; omega)
                have sy1 := howe.cell1 HLM.out.symm (j := r) (by have := HLM.out; omega)
                have sf0 := howe.unfrozen HLM.out.symm (i * 2)
                have sf1 := howe.unfrozen HLM.out.symm (i * 2 + 1)
                have sf2 := howe.unfrozen HLM.out.symm (r * 2)
                have sf3 := howe.unfrozen HLM.out.symm (r * 2 + 1)
                go_wp2
                go_region
                go_wp2
                go_roundw
                case rel => exact ⟨r, swapI l' i r, by omega, by rw [swapI_length]; exact HLM.out, by go_num, howe.swap HLM.out.symm (by have := HLM.out; omega) (by have := HLM.out; omega), (swapI_perm (by have := HLM.out; omega) (by have := HLM.out; omega)).trans hperm, heapDown_swap hdn (by have := HLM.out; omega) (Or.inr HR.out) (ltI_trans (ltB_true.1 HL2.out) (ltB_true.1 HLT.out)) (fun _ => by rw [← HQ.out]; exact leI_of_lt (ltB_true.1 HL2.out)) (fun _ => by rw [← HR.out]; exact leI_refl _), ((((hkwe.setCell rfl _).setCell rfl _).setCell rfl _).setCell rfl _).drew⟩
                case measure => simp [intOf]; omega

            · have gR : decide ((r : Int) < (m : Int)) = false := by simp; omega
              go_wp2
              rw [HRE.out]
              go_quiet (fail)
              rename_i nq
              obtain ⟨wf, hwf⟩ : ∃ wf, wf = wd.drewN nq := ⟨_, rfl⟩
              have hkwf : Keeps (fun k => k = g) wc wf := by rw [hwf]; exact hkwd.drewN _
              have howf : Owns wf B (.slice (some ⟨g, 0, none⟩) m cap) l' := by rw [hwf]; exact howd
              rw [← hwf]
              clear hwf
              have sx0 := howf.cell0 HLM.out.symm (j := i) (by have := HLM.out; omega)
              have sx1 := howf.cell1 HLM.out.symm (j := i) (by have := HLM.out; omega)
              have sy0 := howf.cell0 HLM.out.symm (j := q) (by have := HLM.out; omega)
              have sy1 := howf.cell1 HLM.out.symm (j := q) (by have := HLM.out; omega)
              have sf0 := howf.unfrozen HLM.out.symm (i * 2)
              have sf1 := howf.unfrozen HLM.out.symm (i * 2 + 1)
              have sf2 := howf.unfrozen HLM.out.symm (q * 2)
              have sf3 := howf.unfrozen HLM.out.symm (q * 2 + 1)
              go_wp2
              go_region
              go_wp2
              go_roundw
              case rel => exact ⟨q, swapI l' i q, by omega, by rw [swapI_length]; exact HLM.out, by go_num, howf.swap HLM.out.symm (by have := HLM.out; omega) (by have := HLM.out; omega), (swapI_perm (by have := HLM.out; omega) (by have := HLM.out; omega)).trans hperm, heapDown_swap hdn (by have := HLM.out; omega) (Or.inl HQ.out) (ltB_true.1 HLT.out) (fun _ => by rw [← HQ.out]; exact leI_refl _) (fun h => absurd h (by have := HLM.out; omega)), ((((hkwf.setCell rfl _).setCell rfl _).setCell rfl _).setCell rfl _).drew⟩
              case measure => simp [intOf]; omega


        · have hR : ¬ r < m := by omega
          have gL : decide ((q : Int) < (m : Int)) = false := by simp; omega
          have gR : decide ((r : Int) < (m : Int)) = false := by simp; omega
          go_wp2
          rw [HQE.out]
          go_quiet (fail)
          go_wp2
          rw [HRE.out]
          go_quiet (fail)
          go_wp2
          exact bodyPost_ret (v := .agg #[.int .i64 (itemAt l 0).1, .int .i64 (itemAt l 0).2]) (by simp [results, Yba.results19, go_sem, *]) rfl ⟨rfl, pop_close hcw hgw hgc p1 p3 P4.out P5.out HLN.out (Keeps.drewN hkwr _) howr HLM.out hperm (heapDown_end hdn (fun h => absurd h (by have := HLM.out; omega)) (fun h => absurd h (by have := HLM.out; omega)))⟩

end Go.Proofs.Ybulklfg
