import Derived.Test.YbulklfgClear
import Derived.Deep.CutBlock
namespace Go.Proofs.Ybulklfg
open Go.RowKit
set_option linter.unusedVariables false
attribute [local go_sem] Yba.mLess Yba.mTime

theorem CalInv.days_le {now later : List Item} {today : Int} {s : Nat} {days : Nat → List Item} {inD : Nat} {all : List Item} {a b : Int} (h : CalInv now later today s days inD all a b) : ∀ q, q < s → (days q).length ≤ inD := by
  intro q hq
  have := (bag_own hq days).length_eq
  rw [List.length_append] at this
  have := h.count
  omega
theorem CalInv.later_mem {now later : List Item} {today : Int} {s : Nat} {days : Nat → List Item} {inD : Nat} {all : List Item} {a b : Int} (h : CalInv now later today s days inD all a b) {x : Item} (hx : x ∈ later) : x ∈ all := h.perm.mem_iff.2 (by simp [hx])
theorem CalInv.bag_mem {now later : List Item} {today : Int} {s : Nat} {days : Nat → List Item} {inD : Nat} {all : List Item} {a b : Int} (h : CalInv now later today s days inD all a b) (hp : 0 < inD) : ∃ x ∈ all, a ≤ dayOf x := by
  have hc := h.count
  obtain ⟨x, hx⟩ : ∃ x, x ∈ bag s days := by
    cases hb : bag s days with
    | nil => rw [hb] at hc; simp at hc; omega
    | cons x l => exact ⟨x, by simp⟩
  obtain ⟨i, hi, hxi⟩ := mem_bag.1 hx
  exact ⟨x, h.perm.mem_iff.2 (by simp [hx]), (h.daysIn i hi x hxi).1⟩

theorem take_item {l : List Item} {i : Nat} (h : i < l.length) : l.take (i + 1) = l.take i ++ [itemAt l i] := by
  rw [List.take_add_one]
  congr 1
  simp [itemAt, h]

/-- The values: few, their times no wider than 10^15, their days up to M. -/
def Fit (M : Int) (all : List Item) : Prop := all.length ≤ 2048 ∧ M ≤ 1000000000000000 ∧ ∀ x ∈ all, -1000000000000000 ≤ x.1 ∧ x.1 ≤ 1000000000000000 ∧ dayOf x ≤ M

/-- What the first statement of turn's round leaves: the day ahead of the next. -/
def Ahead (M : Int) (B c : Nat) (own : Nat → Option Nat) (later : List Item) (today : Int) (s : Nat) (days : Nat → List Item) (inD : Nat) (w w' : World) : Prop :=
  ∃ t0 : Int, CalAt w' B c own [] later t0 s days inD ∧ Step own own w w' ∧ today ≤ t0 ∧ t0 + 1 ≤ M ∧ (inD = 0 ∨ t0 = today) ∧ ∀ x ∈ later, t0 + 1 ≤ dayOf x

/-- What turn leaves. -/
def Turned (M : Int) (B c : Nat) (own : Nat → Option Nat) (s : Nat) (all : List Item) (w w' : World) : Prop :=
  ∃ own' now' later' today' days' inD', CalAt w' B c own' now' later' today' s days' inD' ∧ CalInv now' later' today' s days' inD' all (today' + 1) (today' + s) ∧ 0 < now'.length ∧ today' ≤ M ∧ Step own own' w w'

set_option maxHeartbeats 400000 in
set_option maxRecDepth 100000 in
theorem time_any (t i : Int) (w : World) : Calls Yba.prog 48 #[.agg #[.int .i64 t, .int .i64 i]] w fun e w' => e = .returned (.int .i64 t) ∧ ∃ c1 : Array Value, w' = w.alloc (.cells c1 66) := by
  go_enter Yba.func48, Yba.ntmps48
  go_wp2
  go_ret
  exact ⟨rfl, _, rfl⟩

set_option maxHeartbeats 400000 in
set_option maxRecDepth 100000 in
theorem day_any (t : Int) (w : World) (ht1 : -1000000000 ≤ t.tdiv 1000000) (ht2 : t.tdiv 1000000 ≤ 1000000000) : Calls Yba.prog 20 #[.int .i64 t] w fun e w' => e = .returned (.int .i64 (t.tdiv 1000000)) ∧ w' = w := by
  go_enter Yba.func20, Yba.ntmps20
  go_wp2
  go_ret
  exact ⟨rfl, rfl⟩

/-- Pop of the far heap. -/
theorem popFar (B c : Nat) (own : Nat → Option Nat) (now later : List Item) (today : Int) (s : Nat) (days : Nat → List Item) (inD : Nat) (w : World) (h : CalAt w B c own now later today s days inD) (hh : IsHeap later) (hn : later.length ≤ 2048) (hp : 0 < later.length) :
    Calls Yba.prog 19 #[.pointer (some ⟨c, 5, none⟩)] w fun e w' => e = .returned (.agg #[.int .i64 (itemAt later 0).1, .int .i64 (itemAt later 0).2]) ∧ ∃ own' later', CalAt w' B c own' now later' today s days inD ∧ later.Perm (itemAt later 0 :: later') ∧ IsHeap later' ∧ Step own own' w w' := by
  obtain ⟨hb, hap, h0, hf, nv, lv, dv, e2, e3, c0, c1, c2, c3, c4, c5, o1, o2, hd'⟩ := id h
  obtain ⟨a5, cap5, rfl, hm5, hg5⟩ := o2.form
  obtain ⟨g, rfl⟩ := hg5 hp
  have hgc : g ≠ c := fun e => by have := hap 3 0 c (by rw [e3, e]; rfl) h0; omega
  refine (hpop_any c 5 B g _ _ later w c5 (hf 5) o2 rfl hp hh hn hgc).mono ?_
  rintro e w' ⟨rfl, l', a1, a2, a3, a4, a5, a6, a7, a8⟩
  have hx := h.far c5 a1 a2 (a6.mono fun k _ e => by rcases e with e | e; exact Or.inl e; exact Or.inr (by rw [e]; rfl)) a7 a8 (fun k e => Or.inl e)
  exact ⟨rfl, _, l', hx.1, a5, a4, hx.2⟩

/-- Pop of the near heap. -/
theorem popNear (B c : Nat) (own : Nat → Option Nat) (now later : List Item) (today : Int) (s : Nat) (days : Nat → List Item) (inD : Nat) (w : World) (h : CalAt w B c own now later today s days inD) (hh : IsHeap now) (hn : now.length ≤ 2048) (hp : 0 < now.length) :
    Calls Yba.prog 19 #[.pointer (some ⟨c, 0, none⟩)] w fun e w' => e = .returned (.agg #[.int .i64 (itemAt now 0).1, .int .i64 (itemAt now 0).2]) ∧ ∃ own' now', CalAt w' B c own' now' later today s days inD ∧ now.Perm (itemAt now 0 :: now') ∧ IsHeap now' ∧ Step own own' w w' := by
  obtain ⟨hb, hap, h0, hf, nv, lv, dv, e2, e3, c0, c1, c2, c3, c4, c5, o1, o2, hd'⟩ := id h
  obtain ⟨a5, cap5, rfl, hm5, hg5⟩ := o1.form
  obtain ⟨g, rfl⟩ := hg5 hp
  have hgc : g ≠ c := fun e => by have := hap 2 0 c (by rw [e2, e]; rfl) h0; omega
  refine (hpop_any c 0 B g _ _ now w c0 (hf 0) o1 rfl hp hh hn hgc).mono ?_
  rintro e w' ⟨rfl, l', a1, a2, a3, a4, a5, a6, a7, a8⟩
  have hx := h.near c0 a1 a2 (a6.mono fun k _ e => by rcases e with e | e; exact Or.inl e; exact Or.inr (by rw [e]; rfl)) a7 a8 (fun k e => Or.inl e)
  exact ⟨rfl, _, l', hx.1, a5, a4, hx.2⟩

/-- The bucket cleared, and cut to nothing. -/
theorem turn_close {w4 w5 : World} {B c D q : Nat} {own : Nat → Option Nat} {now later : List Item} {today : Int} {s : Nat} {days : Nat → List Item} {inD n cap : Nat} {a : Option Addr} (h : CalAt w4 B c own now later today s days inD) (hD : own 1 = some D) (hq : q < s) (hv : w4.cell? ⟨D, q, none⟩ = some (.slice a n cap)) (hcl : Cleared w4 w5 B (.slice a n cap)) (hne : (Value.slice a n cap).ownBlock ≠ some D) :
    ∃ own', CalAt (w5.setCell ⟨D, q, none⟩ (.slice a 0 cap)) B c own' now later today s (upd days q []) inD ∧ Step own own' w4 (w5.setCell ⟨D, q, none⟩ (.slice a 0 cap)) := by
  have hDw : D < w4.heap.size := (h.1 1 D hD).2
  have cell : ∀ j, w5.cell? ⟨D, j, none⟩ = w4.cell? ⟨D, j, none⟩ := fun j => hcl.1.cell (by exact hDw) hne
  have froz : ∀ j, w5.frozen? ⟨D, j, none⟩ = w4.frozen? ⟨D, j, none⟩ := fun j => hcl.1.frozen (by exact hDw) hne
  have eb : (Value.slice a 0 cap).ownBlock = (Value.slice a n cap).ownBlock := by cases a <;> rfl
  have hk : Keeps (fun k => k = D ∨ (Value.slice a n cap).ownBlock = some k) w4 (w5.setCell ⟨D, q, none⟩ (.slice a 0 cap)) := Keeps.setCell (S := fun k => k = D ∨ (Value.slice a n cap).ownBlock = some k) (p := ⟨D, q, none⟩) (hcl.1.mono fun k _ e => Or.inr e) (Or.inl rfl) _
  have hx := h.day hD hq hv (World.cell?_setCell_same _ _ _ ((cell q).trans hv)) ((hcl.2 a n cap rfl).setOther (fun k e ek => hne (by rw [← eb, e, ek])) _) hk (fun j hj => by rw [cell_set_ne (Or.inr (Ne.symm hj)), cell]) (fun j => by rw [World.frozen?_setCell, froz]) (fun k e => Or.inl (by rw [← eb]; exact e))
  exact ⟨_, hx.1, hx.2⟩

/-- What the loop over the far heap leaves. -/
def Drawn (B c : Nat) (own : Nat → Option Nat) (t1 : Int) (s : Nat) (all : List Item) (w w' : World) : Prop :=
  ∃ own2 now2 later2 days2 inD2, CalAt w' B c own2 now2 later2 t1 s days2 inD2 ∧ CalInv now2 later2 t1 s days2 inD2 all t1 t1 ∧ (∀ x ∈ later2, t1 + s ≤ dayOf x) ∧ Step own own2 w w'

set_option maxHeartbeats 2000000 in
set_option maxRecDepth 100000 in
theorem turn_any (M : Int) (B c : Nat) (own : Nat → Option Nat) (now later : List Item) (today : Int) (s : Nat) (days : Nat → List Item) (inD : Nat) (all : List Item) (w : World) (h : CalAt w B c own now later today s days inD) (hi : CalInv now later today s days inD all (today + 1) (today + s)) (hs : Pow s) (hB : B ≤ w.heap.size)
    (hpos : 0 < all.length) (hfit : Fit M all) (htM : today ≤ M) :
    Calls Yba.prog 18 #[.pointer (some ⟨c, 0, none⟩)] w fun e w' => e = .returned (.tuple #[]) ∧ Turned M B c own s all w w' := by
  obtain ⟨hs1, hs2⟩ := hs.bounds
  obtain ⟨hf1, hf2, hf3⟩ := id hfit
  go_enter Yba.func18, Yba.ntmps18
  go_wp2_with fail
  go_loopg [] (M - today).toNat (fun k wr => ∃ own' now' later' today' days' inD', CalAt wr B c own' now' later' today' s days' inD' ∧ CalInv now' later' today' s days' inD' all (today' + 1) (today' + s) ∧ today' ≤ M ∧ Step own own' w wr ∧ k = (M - today').toNat)
  case atStart => exact ⟨own, now, later, today, days, inD, h, hi, htM, Step.refl _ _, rfl⟩
  case round =>
    clear h hi htM
    obtain ⟨own', now', later', today', days', inD', hcal, hinv, htM, hstep, hk⟩ := hrel
    have HK := hide hk
    clear hk
    have hsz := hinv.size
    have hB' : B ≤ wr.heap.size := Nat.le_trans hB hstep.1.size
    have hto := hinv.pos
    obtain ⟨hb, hap, h0, hf, nv, lv, dv, e2, e3, c0, c1, c2, c3, c4, c5, o1, o2, hd'⟩ := id hcal
    obtain ⟨a0, cap0, rfl, _, _⟩ := o1.form
    by_cases hn : now'.length = 0
    · obtain rfl : now' = [] := List.eq_nil_of_length_eq_zero hn
      clear hn
      have HSZ := hide hsz
      clear hsz
      have hcw : c < wr.heap.size := (hb 0 c h0).2
      have hf1' := hf 1
      go_upto_if 14 with (first | (go_at_call 23; refine (hlen_any c 0 a0 0 cap0 wr (by exact c0)).mono ?_; rintro e w' ⟨rfl, hw⟩; rw [hw]; clear hw w'))
      go_cut [] (fun wc => Ahead M B c own' later' today' s days' inD' wr wc)
      case first =>
        by_cases hin : inD' = 0
        · obtain ⟨a5, cap5, rfl, hm5, hg5⟩ := o2.form
          have hl : 0 < later'.length := by have := HSZ.out; simp at this; omega
          obtain ⟨g, rfl⟩ := hg5 hl
          have hgw : g < wr.heap.size := (o2.lt g rfl).2
          have x0 : wr.cell? ⟨g, 0, none⟩ = some (.int .i64 (itemAt later' 0).1) := by simpa using o2.cell0 rfl (j := 0) hl
          have x1 : wr.cell? ⟨g, 1, none⟩ = some (.int .i64 (itemAt later' 0).2) := by simpa using o2.cell1 rfl (j := 0) hl
          have hmem := itemAt_mem hl
          have hfx := hf3 _ (hinv.later_mem hmem)
          have hge := hinv.laterGe _ hmem
          have hall : ∀ x ∈ later', dayOf (itemAt later' 0) ≤ dayOf x := fun x hx => dayOf_mono (heap_least hinv.hlater hx)
          have hd1 := day_mono hfx.2.1
          have hd2 := day_mono hfx.1
          have e1 : (1000000000000000 : Int).tdiv 1000000 = 1000000000 := by decide
          have e2' : (-1000000000000000 : Int).tdiv 1000000 = -1000000000 := by decide
          rw [e1] at hd1
          rw [e2'] at hd2
          clear e1 e2'
          have z1 : c < wr.heap.size + 1 := by omega
          have z2 : c < wr.heap.size + 1 + 1 := by omega
          subst hin
          go_wp2_with (first | (go_at_call 24; refine (htop_any c 5 g _ _ _ _ wr (by exact c5) hl hcw hgw (by exact x0) (by exact x1)).mono ?_; rintro e w' ⟨rfl, o1, rfl⟩) | (go_at_call 48; go_in) | (go_at_call 20; go_in))
          go_meet
          case rel =>
            have hy := hcal.setNum.1 (dayOf (itemAt later' 0) - 1)
            have hM := hfx.2.2
            have hbel := ((Below.refl _ (wr.setCell ⟨c, 1, none⟩ (.int .i64 (dayOf (itemAt later' 0) - 1)))).alloc (Nat.le_refl _) (.cells o1 66)).alloc (by simp) (.cells #[.int .i64 (itemAt later' 0).1, .int .i64 (itemAt later' 0).2] 66)
            have hcal2 := hy.1.keep (S := fun _ => False) (Keeps.of_below hbel) (fun _ _ _ h => h)
            refine ⟨dayOf (itemAt later' 0) - 1, hcal2, hy.2.trans (Step.below hbel), by omega, by omega, Or.inl rfl, fun x hx => ?_⟩
            have := hall x hx
            omega
        · have hi1 : ((inD' : Int) == 0) = false := by simp; omega
          have hi2 : ¬ ((inD' : Int) = 0) := by omega
          go_wp2_with fail
          go_meet
          case rel =>
            obtain ⟨x, hx, hxd⟩ := hinv.bag_mem (by omega)
            have := (hf3 x hx).2.2
            exact ⟨today', hcal, Step.refl _ _, by omega, by omega, Or.inr rfl, fun x hx => by have := hinv.laterGe x hx; omega⟩
      case rest =>
        obtain ⟨t0, k1, k2, k3, k4, k5, k6⟩ := hcut
        clear c0 c1 c2 c3 c4 c5 o1 o2 hd' hf hb hap e2 e3 h0 hcal hf1'
        obtain ⟨hb, hap, h0, hf, nv, lv, dv, e2, e3, c0, c1, c2, c3, c4, c5, o1, o2, hd'⟩ := id k1
        have hf1' := hf 1
        clear c0 c2 c3 c4 c5 o1 o2 hd' hf hb hap e2 e3 h0
        go_upto_block 2 with fail
        have hy := k1.setNum.1 (t0 + 1)
        obtain ⟨w3, hw3⟩ : ∃ w3, w3 = wc.setCell ⟨c, 1, none⟩ (.int .i64 (t0 + 1)) := ⟨_, rfl⟩
        rw [← hw3] at hy ⊢
        clear hw3
        have st3 : Step own own' w w3 := (hstep.trans k2).trans hy.2
        have hc3 := hy.1
        have hi3 := hinv.onward hs1 (t' := t0 + 1) (by omega) (by rcases k5 with k5 | k5; exact Or.inl k5; exact Or.inr (by omega)) k6
        have p1 : today' < t0 + 1 := by omega
        obtain ⟨t1, ht1⟩ : ∃ t1, t1 = t0 + 1 := ⟨_, rfl⟩
        rw [← ht1] at hc3 hi3 p1 k4
        have hB3 : B ≤ w3.heap.size := Nat.le_trans hB st3.1.size
        clear ht1 hy c1 k1 k2 k3 k5 k6 hf1' hinv hstep hto
        have hto : 0 ≤ t1 := hi3.pos
        go_cut [] (fun wc => Drawn B c own' t1 s all w3 wc)
        case first =>
          go_wp2_with fail
          go_loopg [] later'.length (fun k wr => ∃ own2 now2 later2 days2 inD2, CalAt wr B c own2 now2 later2 t1 s days2 inD2 ∧ CalInv now2 later2 t1 s days2 inD2 all t1 t1 ∧ Step own' own2 w3 wr ∧ k = later2.length)
          case atStart => exact ⟨own', [], later', days', inD', hc3, hi3, Step.refl _ _, rfl⟩
          case round =>
            clear hc3 hi3
            obtain ⟨own2, now2, later2, days2, inD2, hcal, hinv, hstep, hk⟩ := hrel
            have HK2 := hide hk
            have HSZ2 := hide hinv.size
            clear hk
            have hB' : B ≤ wr.heap.size := Nat.le_trans hB3 hstep.1.size
            obtain ⟨hb, hap, h0, hf, nv, lv, dv, e2, e3, c0, c1, c2, c3, c4, c5, o1, o2, hd'⟩ := id hcal
            obtain ⟨a5, cap5, rfl, hm5, hg5⟩ := o2.form
            have hcw : c < wr.heap.size := (hb 0 c h0).2
            by_cases hl0 : later2.length = 0
            · obtain rfl : later2 = [] := List.eq_nil_of_length_eq_zero hl0
              clear hl0 o1 o2 hd' hf hb hap e2 e3 h0
              have c5' : wr.cell? ⟨c, 5, none⟩ = some (.slice a5 0 cap5) := c5
              clear c5 hg5
              go_wp2_with fail
              go_quiet ((go_at_call 23; exact Calls.quiet_of_same (hlen_any _ _ _ _ _ _ (by assumption))))
              go_wp2_with fail
              go_meet
              case rel => exact ⟨own2, now2, [], days2, inD2, hcal, hinv, fun x hx => by simp at hx, hstep⟩
            · have hl : 0 < later2.length := by omega
              obtain ⟨g, rfl⟩ := hg5 hl
              have hgw : g < wr.heap.size := (o2.lt g rfl).2
              have x0 : wr.cell? ⟨g, 0, none⟩ = some (.int .i64 (itemAt later2 0).1) := by simpa using o2.cell0 rfl (j := 0) hl
              have x1 : wr.cell? ⟨g, 1, none⟩ = some (.int .i64 (itemAt later2 0).2) := by simpa using o2.cell1 rfl (j := 0) hl
              have hmem := itemAt_mem hl
              have hfx := hf3 _ (hinv.later_mem hmem)
              have hall : ∀ x ∈ later2, dayOf (itemAt later2 0) ≤ dayOf x := fun x hx => dayOf_mono (heap_least hinv.hlater hx)
              have hd1 := day_mono hfx.2.1
              have hd2 := day_mono hfx.1
              have e1 : (1000000000000000 : Int).tdiv 1000000 = 1000000000 := by decide
              have e2' : (-1000000000000000 : Int).tdiv 1000000 = -1000000000 := by decide
              rw [e1] at hd1
              rw [e2'] at hd2
              clear e1 e2' o1 o2 hd' hf hb hap e2 e3 h0 hg5 hl0 c0 c3 c4
              obtain ⟨n, hn⟩ : ∃ n, n = later2.length := ⟨_, rfl⟩
              have HN := hide hn
              rw [← hn] at c5 hl
              clear hn
              have hli : (0 : Int) < (n : Int) := by omega
              have gT : decide ((0 : Int) < (n : Int)) = true := by simpa using hl
              go_wp2_with fail
              go_region_held3 (fun w' => w'.cell? ⟨c, 5, none⟩ = some (.slice (some ⟨g, 0, none⟩) n cap5) ∧ w'.cell? ⟨c, 1, none⟩ = some (.int .i64 t1) ∧ w'.cell? ⟨c, 2, none⟩ = some (.int .i64 s) ∧ w'.cell? ⟨g, 0, none⟩ = some (.int .i64 (itemAt later2 0).1) ∧ w'.cell? ⟨g, 1, none⟩ = some (.int .i64 (itemAt later2 0).2) ∧ c < w'.heap.size ∧ g < w'.heap.size) (first | exact ⟨c5, c1, c2, x0, x1, hcw, hgw⟩ | (simp [go_sem, World.cell?_alloc_past, *]; done) | (trace_state; fail))
                (first
                  | (go_at_call 23; refine (hlen_any _ _ _ _ _ _ (by assumption)).mono ?_; rintro e w' ⟨rfl, hw⟩; rw [hw]; clear hw w')
                  | (go_at_call 24; refine (htop_any _ _ _ _ _ _ _ _ (by assumption) hl (by assumption) (by assumption) (by assumption) (by assumption)).mono ?_; rintro e w' ⟨rfl, o1, rfl⟩)
                  | (go_at_call 48; refine (time_any _ _ _).mono ?_; rintro e w' ⟨rfl, o2, rfl⟩)
                  | (go_at_call 20; refine (day_any _ _ hd2 hd1).mono ?_; rintro e w' ⟨rfl, hw⟩; rw [hw]; clear hw w'))
              obtain ⟨wd, hwd⟩ : ∃ wd, wd = ((wr.alloc (.cells o1 66)).alloc (.cells o2 66)).drew := ⟨_, rfl⟩
              have hbel : Below wr.heap.size wr wd := by rw [hwd]; exact (((Below.refl _ wr).alloc (Nat.le_refl _) _).alloc (by simp) _).drew
              rw [← hwd]
              rename_i hheld
              have hcald := hcal.keep (S := fun _ => False) (Keeps.of_below hbel) (fun _ _ _ h => h)
              clear hheld hwd x0 x1 c1 c2 c5 hcw hgw gT hli
              have hL : 0 < later2.length := by rw [← HN.out]; exact hl
              have hL2 : later2.length ≤ 2048 := by have := HSZ2.out; omega
              have hL3 : now2.length ≤ 2048 := by have := HSZ2.out; omega
              have hL4 : inD2 ≤ 2048 := by have := HSZ2.out; omega
              have hL5 := hinv.days_le
              have hBd : B ≤ wd.heap.size := Nat.le_trans hB' hbel.size
              have hwrap : IntKind.i64.wrap ((itemAt later2 0).1.tdiv 1000000 - t1) = (itemAt later2 0).1.tdiv 1000000 - t1 := by rw [IntKind.wrap_i64]; omega
              rw [hwrap]
              clear hwrap
              rcases Int.lt_or_le ((itemAt later2 0).1.tdiv 1000000 - t1) s with hlt | hlt
              · go_wp2_with (first
                  | (go_at_call 19; refine (popFar B c own2 now2 later2 t1 s days2 inD2 wd hcald hinv.hlater hL2 hL).mono ?_; rintro e w' ⟨rfl, own3, later3, b1, b2, b3, b4⟩)
                  | (go_at_call 12; refine (push_any B c own3 now2 later3 t1 s days2 inD2 _ _ _ b1 hinv.hnow b3 hL3 (by have := b2.length_eq; simp at this; omega) hL4 (fun q hq => Nat.le_trans (hL5 q hq) hL4) (Nat.le_trans hBd b4.1.size) hfx.1 hfx.2.1 hto (by omega) hs).mono ?_; rintro e w'' ⟨rfl, own4, now4, later4, days4, inD4, d1, d2, d3⟩))
                have hlat : later4 = later3 := by
                  rcases d2 with ⟨_, _, _, h, _⟩ | ⟨_, _, _, h, _⟩ | ⟨_, h, _⟩
                  · exact h
                  · exact h
                  · unfold dayOf at h; simp only at h; omega
                have hlen := b2.length_eq
                simp at hlen
                go_roundg later4.length
                case measure => rw [hlat, HK2.out]; omega
                case rel =>
                  obtain ⟨all', q1, q2⟩ := hinv.popLater b2 b3
                  exact ⟨own4, now4, later4, days4, inD4, d1, (q2.push hs1 (by omega) (by omega) d2).anew q1, hstep.trans ((Step.below hbel).trans (b4.trans d3)), rfl⟩
              · go_wp2_with fail
                go_meet
                case rel => exact ⟨own2, now2, later2, days2, inD2, hcald, hinv, fun x hx => by have h1 := hall x hx; unfold dayOf at h1 ⊢; omega, hstep.trans (Step.below hbel)⟩
        case rest =>
          obtain ⟨own2, now2, later2, days2, inD2, k1, k2, k3, k5⟩ := hcut
          clear hc3 hi3
          have HSZ2 := hide k2.size
          have hL3 : now2.length ≤ 2048 := by have := HSZ2.out; omega
          have hL4 : inD2 ≤ 2048 := by have := HSZ2.out; omega
          have hBc : B ≤ wc.heap.size := Nat.le_trans hB3 k5.1.size
          obtain ⟨hb, hap, h0, hf, nv, lv, dv, e2, e3, c0, c1, c2, c3, c4, c5, o1, o2, hd'⟩ := id k1
          clear c0 c2 c3 c4 c5 o1 o2 hd' hf hb hap e2 e3 h0
          go_upto_region 7 with (first | (go_at_call 22; refine (bucket_any B c own2 now2 later2 t1 s days2 inD2 t1 wc k1 hs hto (by omega) hBc).mono ?_; rintro e w' ⟨D, own3, rfl, a1, a2, a3⟩))
          obtain ⟨i1, i2⟩ := idx_lt hs t1
          obtain ⟨q, hq⟩ : ∃ q : Nat, q = (t1 % s).toNat := ⟨_, rfl⟩
          have hqs : q < s := by omega
          rw [← hq]
          have HQ := hide hq
          clear hq i1 i2 c1
          obtain ⟨hb, hap, h0, hf, nv', lv', dv', e2, e3, c0, c1, c2, c3, c4, c5, o1, o2, hd'⟩ := id a2
          obtain ⟨v, u1', u2', u3', u4'⟩ : ∃ v, own3 (4 + q) = v.ownBlock ∧ w'.cell? ⟨D, q, none⟩ = some v ∧ Owns w' B v (days2 q) ∧ w'.frozen? ⟨D, q, none⟩ = false := by
            rcases hd' with ⟨x1, _⟩ | ⟨D', dvs, x1, x2, x3, x4⟩
            · rw [x1] at a1; cases a1
            · obtain rfl : D' = D := by rw [x1] at a1; exact Option.some.inj a1
              exact ⟨dvs q, (x4 q hqs).1, (x4 q hqs).2.1, (x4 q hqs).2.2, x3 q⟩
          have hne : v.ownBlock ≠ some D := fun e => by have := hap (4 + q) 1 D (by rw [u1']; exact e) a1; omega
          have hcD : c ≠ D := fun e => by have := hap 0 1 D (by rw [h0, e]) a1; omega
          have hdl : D < w'.heap.size := (hb 1 D a1).2
          obtain ⟨av, capv, rfl, hmv, hgv⟩ := u3'.form
          clear c0 c1 c2 c3 c4 c5 o1 o2 hd' hf hb hap e2 e3 h0
          go_wp2_with fail
          have HCV : Hid (own3 1 = some D) := a1
          go_loopw [73] (fun x wr => ∃ (i : Nat) (own4 : Nat → Option Nat) (now4 : List Item), i ≤ (days2 q).length ∧ x = .int .i64 i ∧ CalAt wr B c own4 now4 later2 t1 s days2 inD2 ∧ IsHeap now4 ∧ now4.Perm (now2 ++ (days2 q).take i) ∧ own4 1 = some D ∧ wr.cell? ⟨D, q, none⟩ = some (.slice av (days2 q).length capv) ∧ Step own3 own4 w' wr) (fun x _ => (days2 q).length - (intOf x).toNat)
          case atStart => exact ⟨0, own3, now2, Nat.zero_le _, rfl, a2, k2.hnow, by simp, a1, u2', Step.refl _ _⟩
          case round =>
            clear a1 u2' u3' u4' a2 u1' hne hdl
            obtain ⟨i, own4, now4, hi, rfl, d1, d2, d3, d4, d5, d6⟩ := hrel
            obtain ⟨hb, hap, h0, hf, nv', lv', dv', e2, e3, c0, c1, c2, c3, c4, c5, o1, o2, hd'⟩ := id d1
            obtain ⟨u1', u3', u4'⟩ : own4 (4 + q) = (Value.slice av (days2 q).length capv).ownBlock ∧ Owns wr B (.slice av (days2 q).length capv) (days2 q) ∧ ∀ j, wr.frozen? ⟨D, j, none⟩ = false := by
              rcases hd' with ⟨x1, _⟩ | ⟨D', dvs, x1, x2, x3, x4⟩
              · rw [x1] at d4; cases d4
              · obtain rfl : D' = D := by rw [x1] at d4; exact Option.some.inj d4
                obtain ⟨y1, y2, y3⟩ := x4 q hqs
                obtain e : dvs q = .slice av (days2 q).length capv := by rw [y2] at d5; exact Option.some.inj d5
                rw [e] at y1 y3
                exact ⟨y1, y3, x3⟩
            have hdl : D < wr.heap.size := (hb 1 D d4).2
            have hcw : c < wr.heap.size := (hb 0 c h0).2
            have hBw : B ≤ wr.heap.size := Nat.le_trans hBc (Nat.le_trans a3.1.size d6.1.size)
            by_cases hin : i < (days2 q).length
            · obtain ⟨g, rfl⟩ := hgv (by omega)
              have x0 := u3'.cell0 rfl hin
              have x1 := u3'.cell1 rfl hin
              have hgw : g < wr.heap.size := (u3'.lt g rfl).2
              have hne : nv'.ownBlock ≠ some c := fun e => by have := hap 2 0 c (by rw [e2]; exact e) h0; omega
              have hneD : nv'.ownBlock ≠ some D := fun e => by have := hap 2 1 D (by rw [e2]; exact e) d4; omega
              have hlen4 : now4.length ≤ 2048 := by
                have h1 := d3.length_eq
                rw [List.length_append, List.length_take] at h1
                have h2 := k2.days_le q hqs
                have h3 := HSZ2.out
                omega
              have b1 : (i : Int) < ((days2 q).length : Int) := by omega
              have hf0 := hf 0
              clear c1 c2 c3 c4 c5 o2 hd' hf hb hap e2 e3 h0 u1' u3' u4'
              obtain ⟨p0, hp0⟩ : ∃ p0, p0 = (itemAt (days2 q) i).1 := ⟨_, rfl⟩
              obtain ⟨p1, hp1⟩ : ∃ p1, p1 = (itemAt (days2 q) i).2 := ⟨_, rfl⟩
              rw [← hp0] at x0
              rw [← hp1] at x1
              have HP : Hid ((p0, p1) = itemAt (days2 q) i) := by rw [hp0, hp1]; rfl
              clear hp0 hp1
              have z1 : c < wr.heap.size + 1 := by omega
              have z2 : g < wr.heap.size + 1 := by omega
              have b2 : (days2 q).length ≤ 2048 := Nat.le_trans (k2.days_le q hqs) hL4
              go_wp2_with fail
              obtain ⟨w1, hw1⟩ : ∃ w1, w1 = wr.alloc (.cells #[.int .i64 p0, .int .i64 p1] 66) := ⟨_, rfl⟩
              have hbel : Below wr.heap.size wr w1 := by rw [hw1]; exact (Below.refl _ wr).alloc (Nat.le_refl _) _
              have y0 : w1.cell? ⟨wr.heap.size, 0, none⟩ = some (.int .i64 p0) := by rw [hw1]; go_simp
              have y1 : w1.cell? ⟨wr.heap.size, 1, none⟩ = some (.int .i64 p1) := by rw [hw1]; go_simp
              have l0 : w1.cell? ⟨c, 0, none⟩ = some nv' := (hbel.cell (by exact hcw)).trans c0
              have l1 : w1.frozen? ⟨c, 0, none⟩ = false := (hbel.frozen (by exact hcw)).trans hf0
              have l2 : Owns w1 B nv' now4 := o1.keep (S := fun _ => False) (Keeps.of_below hbel) (fun _ _ h => h)
              have l3 : B ≤ w1.heap.size := Nat.le_trans hBw hbel.size
              have l4 : D < w1.heap.size := Nat.lt_of_lt_of_le hdl hbel.size
              have hcal1 := d1.keep (S := fun _ => False) (Keeps.of_below hbel) (fun _ _ _ h => h)
              have D5 := hide ((hbel.cell (by exact hdl)).trans d5)
              rw [← hw1]
              clear hw1 x0 x1 c0 d5 hf0 o1
              go_region_with (go_at_call 21; refine (hpush_any c 0 B p0 p1 nv' now4 _ (by exact l0) (by exact l1) (by exact l2) d2 hlen4 hne (by exact l3)).mono ?_; rintro e w'' ⟨rfl, v', l', m1, m2, m3, m4, m5, m6, m7, m8⟩)
              all_goals
                go_wp2_with fail
                have hx := hcal1.near l0 m1 m2 m5 m6 m7 m8
                go_roundw
                case rel =>
                  refine ⟨i + 1, _, l', by omega, rfl, hx.1, m3, ?_, by rw [own1_other (by decide)]; exact d4, (m5.cell (by exact l4) (fun e => by rcases e with e | e; exact hcD e.symm; exact hneD e)).trans D5.out, d6.trans ((Step.below hbel).trans hx.2)⟩
                  rw [take_item hin, ← HP.out]
                  exact m4.trans ((List.Perm.cons _ d3).trans (by rw [← List.append_assoc]; exact (List.perm_append_comm (l₁ := [(p0, p1)]))))
                case measure => simp [intOf]; omega
            · obtain rfl : i = (days2 q).length := by omega
              have hdle := k2.days_le q hqs
              have hf4 := hf 4
              clear c0 c1 c2 c3 c5 o1 o2 hd' e2 e3 hf
              go_wp2_with fail
              go_region
              obtain ⟨w4, hw4⟩ : ∃ w4, w4 = (wr.setCell ⟨c, 4, none⟩ (.int .i64 ((inD2 : Int) - ((days2 q).length : Int)))).drew := ⟨_, rfl⟩
              have e : ((inD2 : Int) - ((days2 q).length : Int)) = ((inD2 - (days2 q).length : Nat) : Int) := by omega
              have hy := d1.setNum.2 (inD2 - (days2 q).length)
              have hc4 : CalAt w4 B c own4 now4 later2 t1 s days2 (inD2 - (days2 q).length) := by rw [hw4, e]; exact hy.1
              have st4 : Step own4 own4 wr w4 := by rw [hw4, e]; exact hy.2
              have v0 : w4.cell? ⟨D, q, none⟩ = some (.slice av (days2 q).length capv) := by rw [hw4]; show (wr.setCell _ _).cell? _ = _; rw [cell_set_ne (Or.inl hcD)]; exact d5
              have hvc : (Value.slice av (days2 q).length capv).ownBlock ≠ some c := fun e => by have := hap (4 + q) 0 c (by rw [u1']; exact e) h0; omega
              have hvD : (Value.slice av (days2 q).length capv).ownBlock ≠ some D := fun e => by have := hap (4 + q) 1 D (by rw [u1']; exact e) d4; omega
              have v1 : Owns w4 B (.slice av (days2 q).length capv) (days2 q) := by rw [hw4]; exact u3'.setOther (a := ⟨c, 4, none⟩) (fun k e ek => hvc (by rw [e, ek])) _
              have v2 : ∀ j, w4.frozen? ⟨D, j, none⟩ = false := fun j => by rw [hw4]; show (wr.setCell _ _).frozen? _ = _; rw [World.frozen?_setCell]; exact u4' j
              have hd4 : D < w4.heap.size := Nat.lt_of_lt_of_le hdl st4.1.size
              have hform : (av = none ∧ (days2 q).length = 0 ∧ capv = 0) ∨ ∃ g, av = some ⟨g, 0, none⟩ := by
                obtain ⟨_, ⟨h1, h2⟩ | ⟨g, cap', cur, h2, _⟩⟩ := u3'
                · injection h1 with y1 y2 y3; exact Or.inl ⟨y1, y2, y3⟩
                · injection h2 with y1 y2 y3; exact Or.inr ⟨g, y1⟩
              rw [← hw4]
              clear hw4 e hy c4 hf4 d5 u3' u4' hap hb h0
              rcases hform with ⟨rfl, hz, rfl⟩ | ⟨g, rfl⟩
              · have HZ := hide hz
                clear hz
                go_wp2_with (first | (refine wpList_clear rfl (.tmp 96) rfl B (.slice none (days2 q).length 0) (days2 q) rfl (by exact v1) ?_; intro w5 hcl; have v3 : w5.cell? ⟨D, q, none⟩ = some (.slice none (days2 q).length 0) := (hcl.1.cell (by exact hd4) hvD).trans v0; have v4 : w5.frozen? ⟨D, q, none⟩ = false := (hcl.1.frozen (by exact hd4) hvD).trans (v2 q)))
                obtain ⟨own5, f1, f2⟩ := turn_close hc4 d4 hqs v0 hcl hvD
                obtain ⟨hmv1, hmv2⟩ := CalInv.moved (now' := now4) k2 hs1 k3 (by rw [← HQ.out]; simpa using d3) d2
                rw [← HQ.out] at hmv1
                go_roundg (M - t1).toNat
                case measure => rw [HK.out]; omega
                case rel => exact ⟨own5, now4, later2, t1, upd days2 q [], inD2 - (days2 q).length, f1, hmv1, k4, st3.trans (k5.trans (a3.trans (d6.trans (st4.trans f2)))), rfl⟩
              · go_wp2_with (first | (refine wpList_clear rfl (.tmp 96) rfl B (.slice (some ⟨g, 0, none⟩) (days2 q).length capv) (days2 q) rfl (by exact v1) ?_; intro w5 hcl; have v3 : w5.cell? ⟨D, q, none⟩ = some (.slice (some ⟨g, 0, none⟩) (days2 q).length capv) := (hcl.1.cell (by exact hd4) hvD).trans v0; have v4 : w5.frozen? ⟨D, q, none⟩ = false := (hcl.1.frozen (by exact hd4) hvD).trans (v2 q)))
                obtain ⟨own5, f1, f2⟩ := turn_close hc4 d4 hqs v0 hcl hvD
                obtain ⟨hmv1, hmv2⟩ := CalInv.moved (now' := now4) k2 hs1 k3 (by rw [← HQ.out]; simpa using d3) d2
                rw [← HQ.out] at hmv1
                go_roundg (M - t1).toNat
                case measure => rw [HK.out]; omega
                case rel => exact ⟨own5, now4, later2, t1, upd days2 q [], inD2 - (days2 q).length, f1, hmv1, k4, st3.trans (k5.trans (a3.trans (d6.trans (st4.trans f2)))), rfl⟩
    · have hn1 : ((now'.length : Int) == 0) = false := by simp; intro h; rw [h] at hn; simp at hn
      have hn2 : ¬ ((now'.length : Int) = 0) := by omega
      go_wp2_with (first | (go_at_call 23; refine (hlen_any c 0 a0 _ cap0 wr (by exact c0)).mono ?_; rintro e w' ⟨rfl, hw⟩; rw [hw]; clear hw w'))
      go_end0
      exact ⟨rfl, own', now', later', today', days', inD', hcal, hinv, by omega, htM, hstep⟩
end Go.Proofs.Ybulklfg
