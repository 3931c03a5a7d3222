import Derived.Test.YbulklfgBucket
namespace Go.Proofs.Ybulklfg
open Go.RowKit
set_option linter.unusedVariables false
attribute [local go_sem] Yba.mLess Yba.mTime

set_option maxHeartbeats 1000000 in
set_option maxRecDepth 100000 in
theorem push_near (B c : Nat) (own : Nat → Option Nat) (now later : List Item) (today : Int) (s : Nat) (days : Nat → List Item) (inD : Nat) (t i : Int) (w : World) (h : CalAt w B c own now later today s days inD) (hh : IsHeap now) (hn : now.length ≤ 2048) (hB : B ≤ w.heap.size)
    (ht1 : -1000000000000000 ≤ t) (ht2 : t ≤ 1000000000000000) (hday : t.tdiv 1000000 ≤ today) :
    Calls Yba.prog 12 #[.pointer (some ⟨c, 0, none⟩), .agg #[.int .i64 t, .int .i64 i]] w fun e w' => e = .returned (.tuple #[]) ∧ ∃ own' now', CalAt w' B c own' now' later today s days inD ∧ now'.Perm ((t, i) :: now) ∧ IsHeap now' ∧ Step own own' w w' := by
  have hcal := h
  obtain ⟨hb, hap, h0, hf, nv, lv, dv, e2, e3, c0, c1, c2, c3, c4, c5, o1, o2, hd'⟩ := h
  have hc := (hb 0 c h0).2
  have z1 : c < w.heap.size + 1 := by omega
  have z2 : c < w.heap.size + 1 + 1 := by omega
  go_enter Yba.func12, Yba.ntmps12
  go_wp2_with (first | (go_at_call 48; go_in) | (go_at_call 20; go_in))
  obtain ⟨w1, hw1⟩ : ∃ w1, w1 = (w.alloc (.cells #[.int .i64 t, .int .i64 i] 66)).alloc (.cells #[.int .i64 t, .int .i64 i] 66) := ⟨_, rfl⟩
  have hbel : Below w.heap.size w w1 := by rw [hw1]; exact ((Below.refl _ w).alloc (Nat.le_refl _) _).alloc (by simp) _
  have bx0 : w1.cell? ⟨w.heap.size, 0, none⟩ = some (.int .i64 t) := by rw [hw1]; go_simp
  have bx1 : w1.cell? ⟨w.heap.size, 1, none⟩ = some (.int .i64 i) := by rw [hw1]; go_simp
  rw [← hw1]
  clear hw1
  have hcal1 : CalAt w1 B c own now later today s days inD := hcal.keep (S := fun _ => False) (Keeps.of_below hbel) (fun _ _ _ h => h)
  have hB1 : B ≤ w1.heap.size := Nat.le_trans hB hbel.size
  clear c0 c1 c2 c3 c4 c5 o1 o2 hd' hf hb hap e2 e3 h0
  obtain ⟨hb, hap, h0, hf, nv, lv, dv, e2, e3, c0, c1, c2, c3, c4, c5, o1, o2, hd'⟩ := id hcal1
  have hf0 := hf 0
  have hne : nv.ownBlock ≠ some c := fun e => by have := hap 2 0 c (by rw [e2]; exact e) h0; omega
  go_region_with (go_at_call 21; refine (hpush_any c 0 B t i nv now _ (by exact c0) (by exact hf0) (by exact o1) hh hn hne (by exact hB1)).mono ?_; rintro e w' ⟨rfl, v', l', a1, a2, a3, a4, a5, a6, a7, a8⟩)
  all_goals
    go_wp2
    go_end0
    have hx := hcal1.near c0 a1 a2 a5 a6 a7 a8
    exact ⟨rfl, _, l', hx.1, a4, a3, (Step.below hbel).trans hx.2⟩

set_option maxHeartbeats 1000000 in
set_option maxRecDepth 100000 in
theorem push_far (B c : Nat) (own : Nat → Option Nat) (now later : List Item) (today : Int) (s : Nat) (days : Nat → List Item) (inD : Nat) (t i : Int) (w : World) (h : CalAt w B c own now later today s days inD) (hh : IsHeap later) (hn : later.length ≤ 2048) (hB : B ≤ w.heap.size)
    (ht1 : -1000000000000000 ≤ t) (ht2 : t ≤ 1000000000000000) (hto : 0 ≤ today) (hto2 : today ≤ 1000000000000000) (hs : s ≤ 16) (hday : today < t.tdiv 1000000) (hfar : s ≤ t.tdiv 1000000 - today) :
    Calls Yba.prog 12 #[.pointer (some ⟨c, 0, none⟩), .agg #[.int .i64 t, .int .i64 i]] w fun e w' => e = .returned (.tuple #[]) ∧ ∃ own' later', CalAt w' B c own' now later' today s days inD ∧ later'.Perm ((t, i) :: later) ∧ IsHeap later' ∧ Step own own' w w' := by
  have hcal := h
  obtain ⟨hb, hap, h0, hf, nv, lv, dv, e2, e3, c0, c1, c2, c3, c4, c5, o1, o2, hd'⟩ := h
  have hc := (hb 0 c h0).2
  have z1 : c < w.heap.size + 1 := by omega
  have z2 : c < w.heap.size + 1 + 1 := by omega
  have hd1 := day_mono ht2
  have hd2 := day_mono ht1
  have e1 : (1000000000000000 : Int).tdiv 1000000 = 1000000000 := by decide
  have e2' : (-1000000000000000 : Int).tdiv 1000000 = -1000000000 := by decide
  rw [e1] at hd1
  rw [e2'] at hd2
  clear e1 e2'
  go_enter Yba.func12, Yba.ntmps12
  go_wp2_with (first | (go_at_call 48; go_in) | (go_at_call 20; go_in))
  obtain ⟨w1, hw1⟩ : ∃ w1, w1 = (w.alloc (.cells #[.int .i64 t, .int .i64 i] 66)).alloc (.cells #[.int .i64 t, .int .i64 i] 66) := ⟨_, rfl⟩
  have hbel : Below w.heap.size w w1 := by rw [hw1]; exact ((Below.refl _ w).alloc (Nat.le_refl _) _).alloc (by simp) _
  have bx0 : w1.cell? ⟨w.heap.size, 0, none⟩ = some (.int .i64 t) := by rw [hw1]; go_simp
  have bx1 : w1.cell? ⟨w.heap.size, 1, none⟩ = some (.int .i64 i) := by rw [hw1]; go_simp
  rw [← hw1]
  clear hw1
  have hcal1 : CalAt w1 B c own now later today s days inD := hcal.keep (S := fun _ => False) (Keeps.of_below hbel) (fun _ _ _ h => h)
  have hB1 : B ≤ w1.heap.size := Nat.le_trans hB hbel.size
  clear c0 c1 c2 c3 c4 c5 o1 o2 hd' hf hb hap e2 e3 h0
  obtain ⟨hb, hap, h0, hf, nv, lv, dv, e2, e3, c0, c1, c2, c3, c4, c5, o1, o2, hd'⟩ := id hcal1
  have hf5 := hf 5
  have hne : lv.ownBlock ≠ some c := fun e => by have := hap 3 0 c (by rw [e3]; exact e) h0; omega
  go_quiet (fail)
  go_wp2
  rename_i nq _
  obtain ⟨w2, hw2⟩ : ∃ w2, w2 = w1.drewN nq := ⟨_, rfl⟩
  have hbel2 : Below w.heap.size w w2 := by rw [hw2]; exact below_drewN hbel _
  have hcal2 : CalAt w2 B c own now later today s days inD := by rw [hw2]; exact hcal1
  have k5 : w2.cell? ⟨c, 5, none⟩ = some lv := by rw [hw2]; exact c5
  have kf5 : w2.frozen? ⟨c, 5, none⟩ = false := by rw [hw2]; exact hf5
  have ko : Owns w2 B lv later := by rw [hw2]; exact o2
  have kB : B ≤ w2.heap.size := by rw [hw2]; exact hB1
  have kx0 : w2.cell? ⟨w.heap.size, 0, none⟩ = some (.int .i64 t) := by rw [hw2]; exact bx0
  have kx1 : w2.cell? ⟨w.heap.size, 1, none⟩ = some (.int .i64 i) := by rw [hw2]; exact bx1
  rw [← hw2]
  clear hw2 c0 c1 c2 c3 c4 c5 o1 o2 hd' hf hb hap e2 e3 h0 bx0 bx1 hcal1 hbel hf5
  go_region_with (go_at_call 21; refine (hpush_any c 5 B t i lv later _ (by exact k5) (by exact kf5) (by exact ko) hh hn hne (by exact kB)).mono ?_; rintro e w' ⟨rfl, v', l', a1, a2, a3, a4, a5, a6, a7, a8⟩)
  all_goals
    go_wp2
    go_end0
    have hx := hcal2.far k5 a1 a2 a5 a6 a7 a8
    exact ⟨rfl, _, l', hx.1, a4, a3, (Step.below hbel2).trans hx.2⟩

/-- A bucket turned. -/
theorem CalAt.day {w w' : World} {B c : Nat} {own : Nat → Option Nat} {now later : List Item} {today : Int} {s : Nat} {days : Nat → List Item} {inD : Nat} {D q : Nat} {v v' : Value} {l' : List Item} (h : CalAt w B c own now later today s days inD) (hD : own 1 = some D) (hq : q < s) (hv0 : w.cell? ⟨D, q, none⟩ = some v)
    (hv : w'.cell? ⟨D, q, none⟩ = some v') (ho : Owns w' B v' l') (hk : Keeps (fun k => k = D ∨ v.ownBlock = some k) w w') (hcs : ∀ j, j ≠ q → w'.cell? ⟨D, j, none⟩ = w.cell? ⟨D, j, none⟩) (hfs : ∀ j, w'.frozen? ⟨D, j, none⟩ = w.frozen? ⟨D, j, none⟩)
    (hnew : ∀ k, v'.ownBlock = some k → v.ownBlock = some k ∨ w.heap.size ≤ k) : CalAt w' B c (own1 own (4 + q) v'.ownBlock) now later today s (upd days q l') inD ∧ Step own (own1 own (4 + q) v'.ownBlock) w w' := by
  obtain ⟨hb, hap, h0, hf, nv, lv, dv, e2, e3, c0, c1, c2, c3, c4, c5, o1, o2, hd⟩ := h
  rcases hd with ⟨x1, _⟩ | ⟨D', dvs, x1, rfl, x3, x4⟩
  · rw [x1] at hD; cases hD
  · obtain rfl : D' = D := by rw [x1] at hD; exact Option.some.inj hD
    obtain ⟨y1, y2, y3⟩ := x4 q hq
    obtain rfl : dvs q = v := by rw [y2] at hv0; exact Option.some.inj hv0
    have hnew' : ∀ k, v'.ownBlock = some k → own (4 + q) = some k ∨ w.heap.size ≤ k := by rw [y1]; exact hnew
    have hS : ∀ i k, i ≠ 1 → i ≠ 4 + q → own i = some k → ¬ (k = D' ∨ (dvs q).ownBlock = some k) := by
      intro i k i0 i2 e hs
      rcases hs with rfl | hs
      · exact i0 (hap _ _ _ e x1)
      · exact i2 (hap _ _ _ e (y1.trans hs))
    have hc := hb 0 c h0
    have cell : ∀ j, w'.cell? ⟨c, j, none⟩ = w.cell? ⟨c, j, none⟩ := fun j => hk.cell (by exact hc.2) (hS 0 c (by decide) (by omega) h0)
    have hstep : Step own (own1 own (4 + q) v'.ownBlock) w w' := by
      refine ⟨hk.mono fun k _ hs => ?_, fun i k e => ?_⟩
      · rcases hs with rfl | hs
        · exact ⟨1, x1⟩
        · exact ⟨4 + q, by rw [y1]; exact hs⟩
      · by_cases ei : i = 4 + q
        · subst ei
          rw [own1_same] at e
          rcases hnew' k e with h | h
          · exact Or.inl ⟨_, h⟩
          · exact Or.inr h
        · rw [own1_other ei] at e
          exact Or.inl ⟨i, e⟩
    refine ⟨⟨fun i k e => ?_, apart1 hb hap hnew', by rw [own1_other (by omega)]; exact h0, fun j => by rw [hk.frozen (by exact hc.2) (hS 0 c (by decide) (by omega) h0)]; exact hf j, nv, lv, _, by rw [own1_other (by omega)]; exact e2, by rw [own1_other (by omega)]; exact e3, by rw [cell]; exact c0, by rw [cell]; exact c1, by rw [cell]; exact c2, by rw [cell]; exact c3, by rw [cell]; exact c4, by rw [cell]; exact c5,
      o1.keep hk (fun k e => hS 2 k (by decide) (by omega) (by rw [e2]; exact e)), o2.keep hk (fun k e => hS 3 k (by decide) (by omega) (by rw [e3]; exact e)), Or.inr ⟨D', fun j => if j = q then v' else dvs j, by rw [own1_other (by omega)]; exact x1, rfl, fun j => by rw [hfs]; exact x3 j, fun j hj => ?_⟩⟩, hstep⟩
    · by_cases ei : i = 4 + q
      · subst ei
        rw [own1_same] at e
        exact ho.lt k e
      · rw [own1_other ei] at e
        exact ⟨(hb i k e).1, Nat.lt_of_lt_of_le (hb i k e).2 hk.size⟩
    · by_cases ej : j = q
      · subst ej
        simp only [if_true]
        exact ⟨own1_same _ _ _, hv, by rw [upd_same]; exact ho⟩
      · simp only [if_neg ej]
        obtain ⟨z1, z2, z3⟩ := x4 j hj
        exact ⟨by rw [own1_other (by omega)]; exact z1, by rw [hcs j ej]; exact z2, by rw [upd_other ej]; exact z3.keep hk (fun k e => hS (4 + j) k (by omega) (by omega) (by rw [z1]; exact e))⟩

/-- today, or the count of the buckets' values, another number. -/
theorem CalAt.setNum {w : World} {B c : Nat} {own : Nat → Option Nat} {now later : List Item} {today : Int} {s : Nat} {days : Nat → List Item} {inD : Nat} (h : CalAt w B c own now later today s days inD) :
    (∀ t' : Int, CalAt (w.setCell ⟨c, 1, none⟩ (.int .i64 t')) B c own now later t' s days inD ∧ Step own own w (w.setCell ⟨c, 1, none⟩ (.int .i64 t'))) ∧
    (∀ n : Nat, CalAt (w.setCell ⟨c, 4, none⟩ (.int .i64 n)) B c own now later today s days n ∧ Step own own w (w.setCell ⟨c, 4, none⟩ (.int .i64 n))) := by
  obtain ⟨hb, hap, h0, hf, nv, lv, dv, e2, e3, c0, c1, c2, c3, c4, c5, o1, o2, hd⟩ := h
  have go : ∀ (j0 : Nat) (u : Value), Keeps (fun k => k = c) w (w.setCell ⟨c, j0, none⟩ u) := fun j0 u => Keeps.setCell (S := fun k => k = c) (Keeps.refl _ w) (p := ⟨c, j0, none⟩) rfl u
  have hS : ∀ i k, i ≠ 0 → own i = some k → ¬ k = c := fun i k i0 e ek => i0 (hap i 0 k e (by rw [h0, ek]))
  have st : ∀ (j0 : Nat) (u : Value), Step own own w (w.setCell ⟨c, j0, none⟩ u) := fun j0 u => ⟨(go j0 u).mono fun k _ e => ⟨0, by rw [h0, e]⟩, fun i k e => Or.inl ⟨i, e⟩⟩
  have rest : ∀ (j0 : Nat) (u : Value), Owns (w.setCell ⟨c, j0, none⟩ u) B nv now ∧ Owns (w.setCell ⟨c, j0, none⟩ u) B lv later ∧ DaysAt (w.setCell ⟨c, j0, none⟩ u) B own dv s days := fun j0 u =>
    ⟨o1.keep (go j0 u) (fun k e => hS 2 k (by decide) (by rw [e2]; exact e)), o2.keep (go j0 u) (fun k e => hS 3 k (by decide) (by rw [e3]; exact e)), hd.keep (go j0 u) (fun i k e => (hb i k e).2) (fun k e => hS 1 k (by decide) e) (fun i k e => hS _ k (by omega) e) rfl (fun _ => rfl)⟩
  refine ⟨fun t' => ⟨⟨fun i k e => by simpa using hb i k e, hap, h0, fun j => by rw [World.frozen?_setCell]; exact hf j, nv, lv, dv, e2, e3, ?_, World.cell?_setCell_same _ _ _ c1, ?_, ?_, ?_, ?_, (rest 1 _).1, (rest 1 _).2.1, (rest 1 _).2.2⟩, st 1 _⟩,
    fun n => ⟨⟨fun i k e => by simpa using hb i k e, hap, h0, fun j => by rw [World.frozen?_setCell]; exact hf j, nv, lv, dv, e2, e3, ?_, ?_, ?_, ?_, World.cell?_setCell_same _ _ _ c4, ?_, (rest 4 _).1, (rest 4 _).2.1, (rest 4 _).2.2⟩, st 4 _⟩⟩
  all_goals (rw [cell_set_ne (Or.inr (by decide))]; assumption)

set_option maxHeartbeats 1000000 in
set_option maxRecDepth 100000 in
theorem push_mid (B c : Nat) (own : Nat → Option Nat) (now later : List Item) (today : Int) (s : Nat) (days : Nat → List Item) (inD : Nat) (t i : Int) (w : World) (h : CalAt w B c own now later today s days inD) (hin : inD ≤ 2048) (hdn : ∀ q, q < s → (days q).length ≤ 2048) (hB : B ≤ w.heap.size)
    (ht1 : -1000000000000000 ≤ t) (ht2 : t ≤ 1000000000000000) (hto : 0 ≤ today) (hto2 : today ≤ 1000000000000000) (hs : Pow s) (hday : today < t.tdiv 1000000) (hfar : t.tdiv 1000000 - today < s) :
    Calls Yba.prog 12 #[.pointer (some ⟨c, 0, none⟩), .agg #[.int .i64 t, .int .i64 i]] w fun e w' => e = .returned (.tuple #[]) ∧ ∃ own', CalAt w' B c own' now later today s (upd days (t.tdiv 1000000 % s).toNat (days (t.tdiv 1000000 % s).toNat ++ [(t, i)])) (inD + 1) ∧ Step own own' w w' := by
  have hcal := h
  obtain ⟨hb, hap, h0, hf, nv, lv, dv, e2, e3, c0, c1, c2, c3, c4, c5, o1, o2, hd'⟩ := h
  have hc := (hb 0 c h0).2
  have z1 : c < w.heap.size + 1 := by omega
  have z2 : c < w.heap.size + 1 + 1 := by omega
  have hd1 := day_mono ht2
  have hd2 := day_mono ht1
  have e1 : (1000000000000000 : Int).tdiv 1000000 = 1000000000 := by decide
  have e2' : (-1000000000000000 : Int).tdiv 1000000 = -1000000000 := by decide
  rw [e1] at hd1
  rw [e2'] at hd2
  clear e1 e2'
  obtain ⟨hs1, hs2⟩ := hs.bounds
  go_enter Yba.func12, Yba.ntmps12
  go_wp2_with (first | (go_at_call 48; go_in) | (go_at_call 20; go_in))
  obtain ⟨w1, hw1⟩ : ∃ w1, w1 = (w.alloc (.cells #[.int .i64 t, .int .i64 i] 66)).alloc (.cells #[.int .i64 t, .int .i64 i] 66) := ⟨_, rfl⟩
  have hbel : Below w.heap.size w w1 := by rw [hw1]; exact ((Below.refl _ w).alloc (Nat.le_refl _) _).alloc (by simp) _
  have bx0 : w1.cell? ⟨w.heap.size, 0, none⟩ = some (.int .i64 t) := by rw [hw1]; go_simp
  have bx1 : w1.cell? ⟨w.heap.size, 1, none⟩ = some (.int .i64 i) := by rw [hw1]; go_simp
  have bz : w.heap.size < w1.heap.size := by rw [hw1]; simp; omega
  rw [← hw1]
  clear hw1
  have hcal1 : CalAt w1 B c own now later today s days inD := hcal.keep (S := fun _ => False) (Keeps.of_below hbel) (fun _ _ _ h => h)
  have hB1 : B ≤ w1.heap.size := Nat.le_trans hB hbel.size
  clear c0 c1 c2 c3 c4 c5 o1 o2 hd' hf hb hap e2 e3 h0
  obtain ⟨hb, hap, h0, hf, nv, lv, dv, e2, e3, c0, c1, c2, c3, c4, c5, o1, o2, hd'⟩ := id hcal1
  go_quiet (fail)
  rename_i nq
  obtain ⟨w2, hw2⟩ : ∃ w2, w2 = w1.drewN nq := ⟨_, rfl⟩
  have hbel2 : Below w.heap.size w w2 := by rw [hw2]; exact below_drewN hbel _
  have hcal2 : CalAt w2 B c own now later today s days inD := by rw [hw2]; exact hcal1
  have kB : B ≤ w2.heap.size := by rw [hw2]; exact hB1
  have kx0 : w2.cell? ⟨w.heap.size, 0, none⟩ = some (.int .i64 t) := by rw [hw2]; exact bx0
  have kx1 : w2.cell? ⟨w.heap.size, 1, none⟩ = some (.int .i64 i) := by rw [hw2]; exact bx1
  have kz : w.heap.size < w2.heap.size := by rw [hw2]; exact bz
  rw [← hw2]
  clear hw2 c0 c1 c2 c3 c4 c5 o1 o2 hd' hf hb hap e2 e3 h0 bx0 bx1 hcal1 hbel bz
  go_wp2_with (first | (go_at_call 22; refine (bucket_any B c own now later today s days inD _ w2 hcal2 hs (by omega) (by omega) kB).mono ?_; rintro e w' ⟨D, own', rfl, a1, a2, a3⟩))
  have hlt : w.heap.size ≤ w2.heap.size := hbel2.size
  have notOwn : ¬ Foot own w.heap.size := fun ⟨j, hj⟩ => by have := (hcal.1 j _ hj).2; omega
  have bx0 : w'.cell? ⟨w.heap.size, 0, none⟩ = some (.int .i64 t) := (a3.1.cell (by exact kz) notOwn).trans kx0
  have bx1 : w'.cell? ⟨w.heap.size, 1, none⟩ = some (.int .i64 i) := (a3.1.cell (by exact kz) notOwn).trans kx1
  have hB' : B ≤ w'.heap.size := Nat.le_trans kB a3.1.size
  obtain ⟨i1, i2⟩ := idx_lt hs (t.tdiv 1000000)
  obtain ⟨q, hq⟩ : ∃ q : Nat, q = (t.tdiv 1000000 % s).toNat := ⟨_, rfl⟩
  have hqs : q < s := by omega
  rw [← hq]
  have HQ := hide hq
  clear hq kx0 kx1
  have hdq := hdn q hqs
  have hdl : D < w'.heap.size := (a2.1 1 D a1).2
  obtain ⟨hb, hap, h0, hf, nv', lv', dv', e2, e3, c0, c1, c2, c3, c4, c5, o1, o2, hd'⟩ := id a2
  obtain ⟨v, u1, u2, u3, u4⟩ : ∃ v, own' (4 + q) = v.ownBlock ∧ w'.cell? ⟨D, q, none⟩ = some v ∧ Owns w' B v (days q) ∧ w'.frozen? ⟨D, q, none⟩ = false := by
    rcases hd' with ⟨x1, _⟩ | ⟨D', dvs, x1, x2, x3, x4⟩
    · rw [x1] at a1; cases a1
    · obtain rfl : D' = D := by rw [x1] at a1; exact Option.some.inj a1
      exact ⟨dvs q, (x4 q hqs).1, (x4 q hqs).2.1, (x4 q hqs).2.2, x3 q⟩
  have hne : v.ownBlock ≠ some D := fun e => by have := hap (4 + q) 1 D (by rw [u1]; exact e) a1; omega
  have hcD : c ≠ D := fun e => by have := hap 0 1 D (by rw [h0, e]) a1; omega
  have z3 : D < w'.heap.size + 1 := by omega
  have z4 : w.heap.size < w'.heap.size := Nat.lt_of_lt_of_le kz a3.1.size
  clear c0 c1 c2 c3 c4 c5 o1 o2 hd' hf hb hap e2 e3 h0 u1
  go_cut [] (fun wc => Pushed D q B v (days q) (t, i) w' wc)
  case first =>
    go_region_law (refine step_push rfl (.tmp 45) (.tmp 47) rfl B v (days q) rfl (u3.alloc _) w'.heap.size (t, i) rfl (by go_simp) (by go_simp) (by omega) (by simp; omega) ?_; intro g cap w3 hgr; have hc1 : w3.cell? ⟨D, q, none⟩ = some v := hgr.2.1.cell (by go_simp) (by simpa using Ne.symm hne); have hf1 : w3.frozen? ⟨D, q, none⟩ = false := by rw [World.frozen?_of_block (hgr.2.1.block D (by simp; omega) (by simpa using Ne.symm hne))]; go_simp)
    all_goals
      go_wp2_with fail
      go_meet
      case rel => exact pushed_of u2 hne (((Below.refl _ w').alloc (Nat.le_refl _) _).drew) hgr
  case rest =>
    obtain ⟨g, cap, hcell, hown, hgc, hcm, hk, hcs, hfs, hnew⟩ := hcut
    have hx := a2.day a1 hqs u2 hcell hown hk hcs hfs (fun k e => by cases e; exact hnew)
    have hx1 := hx.1
    obtain ⟨hb, hap, h0, hf, nv', lv', dv', e2, e3, c0, c1, c2, c3, c4, c5, o1, o2, hd'⟩ := id hx1
    have hf4 := hf 4
    clear c0 c1 c2 c3 c5 o1 o2 hd' hf hb hap e2 e3 h0 hcs hfs hcell hown bx0 bx1 u2 u3 u4
    go_wp2
    go_end0
    have e : ((inD : Int) + 1) = ((inD + 1 : Nat) : Int) := by omega
    have hq : q = (t.tdiv 1000000 % s).toNat := HQ
    rw [e, ← hq]
    have hy := hx1.setNum.2 (inD + 1)
    exact ⟨rfl, _, hy.1, (((Step.below hbel2).trans a3).trans hx.2).trans hy.2⟩

/-- (*Calendar).Push. -/
theorem push_any (B c : Nat) (own : Nat → Option Nat) (now later : List Item) (today : Int) (s : Nat) (days : Nat → List Item) (inD : Nat) (t i : Int) (w : World) (h : CalAt w B c own now later today s days inD) (h1 : IsHeap now) (h2 : IsHeap later) (n1 : now.length ≤ 2048) (n2 : later.length ≤ 2048) (n3 : inD ≤ 2048) (n4 : ∀ q, q < s → (days q).length ≤ 2048) (hB : B ≤ w.heap.size)
    (ht1 : -1000000000000000 ≤ t) (ht2 : t ≤ 1000000000000000) (hto : 0 ≤ today) (hto2 : today ≤ 1000000000000000) (hs : Pow s) :
    Calls Yba.prog 12 #[.pointer (some ⟨c, 0, none⟩), .agg #[.int .i64 t, .int .i64 i]] w fun e w' => e = .returned (.tuple #[]) ∧ ∃ own' now' later' days' inD', CalAt w' B c own' now' later' today s days' inD' ∧ PushR today s (t, i) now later days inD now' later' days' inD' ∧ Step own own' w w' := by
  rcases Int.lt_or_le today (t.tdiv 1000000) with hd | hd
  · rcases Int.lt_or_le (t.tdiv 1000000 - today) s with hf | hf
    · refine (push_mid B c own now later today s days inD t i w h n3 n4 hB ht1 ht2 hto hto2 hs hd hf).mono ?_
      rintro e w' ⟨rfl, own', a, b⟩
      exact ⟨rfl, own', _, _, _, _, a, Or.inr (Or.inl ⟨hd, hf, rfl, rfl, rfl, rfl⟩), b⟩
    · refine (push_far B c own now later today s days inD t i w h h2 n2 hB ht1 ht2 hto hto2 hs.bounds.2 hd hf).mono ?_
      rintro e w' ⟨rfl, own', l', a, b, x, y⟩
      exact ⟨rfl, own', _, _, _, _, a, Or.inr (Or.inr ⟨hd, hf, rfl, b, x, rfl, rfl⟩), y⟩
  · refine (push_near B c own now later today s days inD t i w h h1 n1 hB ht1 ht2 hd).mono ?_
    rintro e w' ⟨rfl, own', l', a, b, x, y⟩
    exact ⟨rfl, own', _, _, _, _, a, Or.inl ⟨hd, b, x, rfl, rfl, rfl⟩, y⟩
end Go.Proofs.Ybulklfg
