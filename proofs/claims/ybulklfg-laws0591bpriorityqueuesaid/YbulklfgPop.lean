import Derived.Test.YbulklfgTurn
namespace Go.Proofs.Ybulklfg
open Go.RowKit
set_option linter.unusedVariables false
attribute [local go_sem] Yba.mLess Yba.mTime

theorem Pow.twice {s : Nat} (h : Pow s) (h2 : s ≤ 15) : Pow (s * 2) := by unfold Pow at *; omega

set_option maxHeartbeats 400000 in
set_option maxRecDepth 100000 in
theorem new_any (R : Int) (w : World) (h0 : 0 ≤ R.tdiv 1000000) (h1 : R.tdiv 1000000 ≤ 15) :
    Calls Yba.prog 9 #[.int .i64 R] w fun e w' => ∃ s : Nat, Pow s ∧ e = .returned (.agg #[.slice none 0 0, .int .i64 0, .int .i64 s, .slice none 0 0, .int .i64 0, .slice none 0 0]) ∧ Below w.heap.size w w' := by
  go_enter Yba.func9, Yba.ntmps9
  go_wp2_with fail
  go_loop [3] (fun x => ∃ s : Nat, x = .int .i64 s ∧ Pow s) (fun x => 16 - (intOf x).toNat)
  case atStart => exact ⟨1, rfl, Or.inl rfl⟩
  case round =>
    obtain ⟨s, rfl, hs⟩ := hrel
    obtain ⟨b1, b2⟩ := hs.bounds
    have b3 : (s : Int) < 131072 := by omega
    by_cases hle : (s : Int) ≤ R.tdiv 1000000
    · go_wp2_with fail
      go_round
      case rel => exact ⟨s * 2, by simp, hs.twice (by omega)⟩
      case measure => simp [intOf]; omega
    · have hle2 : R.tdiv 1000000 < s := by omega
      go_wp2_with fail
      exact bodyPost_ret (v := .agg #[.slice none 0 0, .int .i64 0, .int .i64 s, .slice none 0 0, .int .i64 0, .slice none 0 0]) (by simp [results, Yba.results9, go_sem]) rfl ⟨s, hs, rfl, (Below.refl _ w).alloc (Nat.le_refl _) _⟩

theorem Step.setNew {own own' : Nat → Option Nat} {w w' : World} (h : Step own own' w w') {p : Addr} (hp : w.heap.size ≤ p.block) (u : Value) : Step own own' w (w'.setCell p u) := ⟨h.1.setNew hp u, h.2⟩
theorem Step.notOwn {own own' : Nat → Option Nat} {w w' : World} (h : Step own own' w w') {k : Nat} (hk : k < w.heap.size) (hn : ¬ Foot own k) : ¬ Foot own' k := fun ⟨i, hi⟩ => by
  rcases h.2 i k hi with h1 | h1
  · exact hn h1
  · omega

set_option maxHeartbeats 400000 in
set_option maxRecDepth 100000 in
/-- (*Calendar).Pop. -/
theorem pop_any (M : Int) (B c : Nat) (own : Nat → Option Nat) (now later : List Item) (today : Int) (s : Nat) (days : Nat → List Item) (inD : Nat) (all : List Item) (w : World) (h : CalAt w B c own now later today s days inD) (hi : CalInv now later today s days inD all (today + 1) (today + s)) (hs : Pow s) (hB : B ≤ w.heap.size)
    (hpos : 0 < all.length) (hfit : Fit M all) (htM : today ≤ M) :
    Calls Yba.prog 11 #[.pointer (some ⟨c, 0, none⟩)] w fun e w' => ∃ x all', e = .returned (.agg #[.int .i64 x.1, .int .i64 x.2]) ∧ all.Perm (x :: all') ∧ (∀ y ∈ all, leI x y) ∧ ∃ own' now' later' today' days' inD', CalAt w' B c own' now' later' today' s days' inD' ∧ CalInv now' later' today' s days' inD' all' (today' + 1) (today' + s) ∧ today' ≤ M ∧ Step own own' w w' := by
  have n0 : ¬ Foot own w.heap.size := fun ⟨i, hi⟩ => by have := (h.1 i _ hi).2; omega
  obtain ⟨w1, hw1⟩ : ∃ w1, w1 = w.alloc (.cells #[.int .i64 0, .int .i64 0] 66) := ⟨_, rfl⟩
  have hbel : Below w.heap.size w w1 := by rw [hw1]; exact (Below.refl _ w).alloc (Nat.le_refl _) _
  have r0 : w1.cell? ⟨w.heap.size, 0, none⟩ = some (.int .i64 0) := by rw [hw1]; go_simp
  have r1 : w1.cell? ⟨w.heap.size, 1, none⟩ = some (.int .i64 0) := by rw [hw1]; go_simp
  have r2 : ∀ j, w1.frozen? ⟨w.heap.size, j, none⟩ = false := by rw [hw1]; intro j; simp [go_sem]
  have r3 : w.heap.size < w1.heap.size := by rw [hw1]; simp
  have hcal1 := h.keep (S := fun _ => False) (Keeps.of_below hbel) (fun _ _ _ h => h)
  have hB1 : B ≤ w1.heap.size := Nat.le_trans hB hbel.size
  have hl := hfit.1
  go_enter Yba.func11, Yba.ntmps11
  go_wp2_with fail
  rw [← hw1]
  clear hw1
  refine (turn_any M B c own now later today s days inD all w1 hcal1 hi hs hB1 hpos hfit htM).mono ?_
  rintro e w2 ⟨rfl, own2, now2, later2, today2, days2, inD2, t1, t2, t3, t4, t5⟩
  have m1 := t5.notOwn r3 n0
  have q0 : w2.cell? ⟨w.heap.size, 0, none⟩ = some (.int .i64 0) := (t5.1.cell (by exact r3) n0).trans r0
  have q1 : w2.cell? ⟨w.heap.size, 1, none⟩ = some (.int .i64 0) := (t5.1.cell (by exact r3) n0).trans r1
  have q2 : ∀ j, w2.frozen? ⟨w.heap.size, j, none⟩ = false := fun j => (t5.1.frozen (by exact r3) n0).trans (r2 j)
  have q3 : w.heap.size < w2.heap.size := Nat.lt_of_lt_of_le r3 t5.1.size
  have hsz := t2.size
  have hlen : now2.length ≤ 2048 := by omega
  have HSZ := hide hsz
  clear hsz r0 r1 r2
  go_wp2_with (first | (go_at_call 19; refine (popNear B c own2 now2 later2 today2 s days2 inD2 w2 t1 t2.hnow hlen t3).mono ?_; rintro e w3 ⟨rfl, own3, now3, s1, s2, s3, s4⟩; have p0 : w3.cell? ⟨w.heap.size, 0, none⟩ = some (.int .i64 0) := (s4.1.cell (by exact q3) m1).trans q0; have p1 : w3.cell? ⟨w.heap.size, 1, none⟩ = some (.int .i64 0) := (s4.1.cell (by exact q3) m1).trans q1; have p2 : w3.frozen? ⟨w.heap.size, 0, none⟩ = false := (s4.1.frozen (by exact q3) m1).trans (q2 0); have p3 : w3.frozen? ⟨w.heap.size, 1, none⟩ = false := (s4.1.frozen (by exact q3) m1).trans (q2 1); have p4 : w.heap.size < w3.heap.size := Nat.lt_of_lt_of_le q3 s4.1.size))
  refine bodyPost_ret (v := .agg #[.int .i64 (itemAt now2 0).1, .int .i64 (itemAt now2 0).2]) (by simp [results, Yba.results11, go_sem, p0, p1]) rfl ?_
  obtain ⟨all', v1, v2⟩ := t2.popNow s2 s3
  have m2 := s4.notOwn q3 m1
  have hk : Keeps (fun k => k = w.heap.size) w3 ((w3.setCell ⟨w.heap.size, 0, none⟩ (.int .i64 (itemAt now2 0).1)).setCell ⟨w.heap.size, 1, none⟩ (.int .i64 (itemAt now2 0).2)) := Keeps.setCell (S := fun k => k = w.heap.size) (p := ⟨w.heap.size, 1, none⟩) (Keeps.setCell (S := fun k => k = w.heap.size) (p := ⟨w.heap.size, 0, none⟩) (Keeps.refl _ _) rfl _) rfl _
  refine ⟨itemAt now2 0, all', rfl, v1, t2.least (by have := hs.bounds; omega) t3, own3, now3, later2, today2, days2, inD2, s1.keep hk (fun i k e ek => m2 ⟨i, by rw [e, ek]⟩), v2, t4, ?_⟩
  exact ((((Step.below hbel).trans t5).trans s4).setNew (p := ⟨w.heap.size, 0, none⟩) (by exact Nat.le_refl _) _).setNew (p := ⟨w.heap.size, 1, none⟩) (by exact Nat.le_refl _) _

/-- The index of the least, among the first i. -/
theorem min_step {l : List Item} {k i : Nat} (h : ∀ j, j < i → leI (itemAt l k) (itemAt l j)) (hlt : ltI (itemAt l i) (itemAt l k)) : ∀ j, j < i + 1 → leI (itemAt l i) (itemAt l j) := by
  intro j hj
  by_cases e : j = i
  · subst e; exact leI_refl _
  · exact leI_trans (leI_of_lt hlt) (h j (by omega))
theorem min_start (l : List Item) : ∀ j, j < 1 → leI (itemAt l 0) (itemAt l j) := by
  intro j hj
  have e : j = 0 := by omega
  rw [e]
  exact leI_refl _
theorem min_stay {l : List Item} {k i : Nat} (h : ∀ j, j < i → leI (itemAt l k) (itemAt l j)) (hlt : ¬ ltI (itemAt l i) (itemAt l k)) : ∀ j, j < i + 1 → leI (itemAt l k) (itemAt l j) := by
  intro j hj
  by_cases e : j = i
  · subst e; exact hlt
  · exact h j (by omega)

set_option maxHeartbeats 1000000 in
set_option maxRecDepth 100000 in
theorem min_any (B g n cap : Nat) (l : List Item) (w : World) (ho : Owns w B (.slice (some ⟨g, 0, none⟩) n cap) l) (hn : n = l.length) (hp : 0 < n) (hn2 : n ≤ 2048) :
    Calls Yba.prog 10 #[.slice (some ⟨g, 0, none⟩) n cap] w fun e w' => ∃ k : Nat, e = .returned (.int .i64 k) ∧ k < n ∧ (∀ j, j < n → leI (itemAt l k) (itemAt l j)) ∧ Below w.heap.size w w' := by
  have HN := hide hn
  clear hn
  go_enter Yba.func10, Yba.ntmps10
  go_wp2_with fail
  go_loopw [3, 4] (fun x y wr => ∃ k i : Nat, x = .int .i64 k ∧ y = .int .i64 i ∧ k < i ∧ i ≤ n ∧ (∀ j, j < i → leI (itemAt l k) (itemAt l j)) ∧ Below w.heap.size w wr) (fun x y _ => n - (intOf y).toNat)
  case atStart => exact ⟨0, 1, rfl, rfl, by omega, by omega, min_start l, Below.refl _ _⟩
  case round =>
    obtain ⟨k, i, rfl, rfl, hki, hin, hle, hbel⟩ := hrel
    by_cases hlt : i < n
    · have hor : Owns wr B (.slice (some ⟨g, 0, none⟩) n cap) l := ho.keep (S := fun _ => False) (Keeps.of_below hbel) (fun _ _ h => h)
      have x0 := hor.cell0 HN.out (j := i) (by rw [← HN.out]; exact hlt)
      have x1 := hor.cell1 HN.out (j := i) (by rw [← HN.out]; exact hlt)
      have y0 := hor.cell0 HN.out (j := k) (by rw [← HN.out]; omega)
      have y1 := hor.cell1 HN.out (j := k) (by rw [← HN.out]; omega)
      have hgw : g < wr.heap.size := (hor.lt g rfl).2
      have b1 : (i : Int) < (n : Int) := by omega
      have b2 : (k : Int) < (n : Int) := by omega
      clear ho hor
      go_wp2_with fail
      go_region_held3 (fun w' => w'.cell? ⟨g, i * 2, none⟩ = some (.int .i64 (itemAt l i).1) ∧ w'.cell? ⟨g, i * 2 + 1, none⟩ = some (.int .i64 (itemAt l i).2) ∧ w'.cell? ⟨g, k * 2, none⟩ = some (.int .i64 (itemAt l k).1) ∧ w'.cell? ⟨g, k * 2 + 1, none⟩ = some (.int .i64 (itemAt l k).2)) (first | exact ⟨x0, x1, y0, y1⟩ | (simp [go_sem, World.cell?_alloc_past, *]; done) | (trace_state; fail))
        (first
          | (go_at_call 17; refine (less_any _ _ _ _ _).mono ?_; rintro e w' ⟨rfl, o1, o2, rfl⟩))
      obtain ⟨wd, hwd⟩ : ∃ wd, wd = ((wr.alloc (.cells o1 66)).alloc (.cells o2 66)).drew := ⟨_, rfl⟩
      have hbd : Below w.heap.size w wd := by rw [hwd]; exact ((hbel.alloc hbel.size _).alloc (by have := hbel.size; simp; omega) _).drew
      rw [← hwd]
      rename_i hheld
      clear hheld hwd x0 x1 y0 y1 hgw
      cases hl : ltB ((itemAt l i).fst, (itemAt l i).snd) ((itemAt l k).fst, (itemAt l k).snd) with
      | false =>
        have HL := hide hl
        clear hl
        go_wp2_with fail
        go_roundw
        case rel => exact ⟨k, i + 1, rfl, rfl, by omega, by omega, min_stay hle (ltB_false.1 HL.out), hbd⟩
        case measure => simp [intOf]; omega
      | true =>
        have HL := hide hl
        clear hl
        go_wp2_with fail
        go_roundw
        case rel => exact ⟨i, i + 1, rfl, rfl, by omega, by omega, min_step hle (ltB_true.1 HL.out), hbd⟩
        case measure => simp [intOf]; omega
    · have hin2 : n = i := by omega
      subst hin2
      go_wp2_with fail
      go_ret
      exact ⟨k, rfl, hki, hle, hbel⟩
end Go.Proofs.Ybulklfg
