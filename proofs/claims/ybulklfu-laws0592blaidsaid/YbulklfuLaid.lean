import Derived.Test.YbulklfuLay
namespace Go.Proofs.Ybulklfu
open Go.RowKit
set_option linter.unusedVariables false

/-! ### The plain law: distinct columns -/
theorem layTo_miss {f g laid : Nat → Int} {k j : Nat} (h : ∀ t, t < k → (f t).toNat ≠ j) : layTo f g laid k j = laid j := by
  induction k with
  | zero => rfl
  | succ k ih =>
    simp only [layTo]
    rw [if_neg (fun e => h k (by omega) e.symm)]
    exact ih fun t ht => h t (by omega)

theorem layTo_hit {f g laid : Nat → Int} {n k : Nat} (hk : k < n) (h : ∀ t, k < t → t < n → (f t).toNat ≠ (f k).toNat) : layTo f g laid n (f k).toNat = g k := by
  induction n with
  | zero => omega
  | succ n ih =>
    simp only [layTo]
    by_cases e : n = k
    · subst e; simp
    · rw [if_neg (fun e' => h n (by omega) (by omega) e'.symm)]
      exact ih (by omega) fun t h1 h2 => h t h1 (by omega)

theorem layTo_here {f g laid : Nat → Int} {q c : Nat} (h : f q = c) : layTo f g laid (q + 1) c = g q := by
  simp only [layTo, h, Int.toNat_natCast, if_true]
theorem layTo_else {f g laid : Nat → Int} {q d c : Nat} (h : f q = d) (hd : ¬ d = c) : layTo f g laid (q + 1) c = layTo f g laid q c := by
  simp only [layTo, h, Int.toNat_natCast]
  rw [if_neg (fun e => hd e.symm)]

/-- The columns (k + off) % m, k below m, are distinct. -/
theorem cols_distinct {m off k t : Nat} (hk : k < t) (ht : t < m) : ((((t : Int) + off) % m).toNat) ≠ ((((k : Int) + off) % m).toNat) := by
  intro e
  have h1 : ((t : Int) + off) % m = (((t + off) % m : Nat) : Int) := by push_cast; rfl
  have h2 : ((k : Int) + off) % m = (((k + off) % m : Nat) : Int) := by push_cast; rfl
  rw [h1, h2, Int.toNat_natCast, Int.toNat_natCast] at e
  have hm : 0 < m := by omega
  have d1 := Nat.div_add_mod (t + off) m
  have d2 := Nat.div_add_mod (k + off) m
  have hq : t + off - (k + off) = m * ((t + off) / m - (k + off) / m) := by
    rw [Nat.mul_sub]
    omega
  have ht' : t - k = m * ((t + off) / m - (k + off) / m) := by omega
  cases hq' : (t + off) / m - (k + off) / m with
  | zero => rw [hq'] at ht'; omega
  | succ q =>
    rw [hq', Nat.mul_succ] at ht'
    omega

theorem laid_self {m off n : Nat} (hn : n ≤ m) (g : Nat → Int) : leAll n (fun t => ((t : Int) + off) % m) g (layTo (fun t => ((t : Int) + off) % m) g (fun _ => 0) n) = true := by
  refine leAll_yes fun j hj => ?_
  rw [layTo_hit (f := fun t => ((t : Int) + off) % m) hj (fun t h1 h2 => cols_distinct h1 (by omega))]
  exact Int.le_refl _





set_option maxHeartbeats 2000000 in
set_option maxRecDepth 100000 in
theorem laid_walk_small (r : Int) (off : Nat) (a0 : Option Addr) (n0 c0 : Nat) (C0 T0 : Nat → Int) (a1 : Option Addr) (n1 c1 : Nat) (C1 T1 : Nat → Int) (w : World)
    (hr : 0 ≤ r ∧ r ≤ 255) (hoff : off ≤ 255) (h0 : IsEnts w a0 n0 C0 T0) (h1 : IsEnts w a1 n1 C1 T1) (hn0 : n0 ≤ 1024) (hn1 : n1 ≤ 1024) (hcase : (n0 : Int) ≤ 1 + r % 16) :
    Calls Yba.prog 4 #[.int .u8 r, .int .u8 off, .slice a0 n0 c0, .slice a1 n1 c1] w fun e w' => e = .returned (.bool true) ∧ Below w.heap.size w w' := by
  obtain ⟨hr0, hr1⟩ := hr
  obtain ⟨i0, hi, hz0, hz1, hz2⟩ := info_parts Yba.info21
  obtain ⟨j0, hj, hy0, hy1, hy2⟩ := info_parts Yba.info31
  obtain ⟨m, hM⟩ : ∃ m : Nat, (1 + r % 16 : Int) = m := Int.eq_ofNat_of_zero_le (by omega)
  have hm1 : 1 ≤ m := by omega
  have hm2 : m ≤ 16 := by omega
  have hmm : n0 ≤ 1024 := hn0
  have hmn : n0 ≤ m := by omega
  clear hcase
  go_enter Yba.func4, Yba.ntmps4
  go_wp2_with (first
    | (at_make; refine wpList_make_own _ rfl _ _ 24 rfl w.heap.size 21 i0 (.int .i32 0) 1 Yba.underlying24 hi hz0 hz1 _ _ _ n0 rfl rfl (by omega) (by rw [hz2]; omega) (by unfold maxLen; omega) (Nat.le_refl _) ?_; intro w1 hown1 hgrow1; have hb1 := (Below.refl w.heap.size w).grown hgrow1 (Nat.le_refl _) (by simp); have hlt1 : w.heap.size < w1.heap.size := (hown1.lt _ rfl).2)
    | (at_make; refine wpList_make_own _ rfl _ _ 23 rfl w.heap.size 31 j0 (.int .u64 0) 1 Yba.underlying23 hj hy0 hy1 _ _ _ n0 rfl rfl (by omega) (by rw [hy2]; omega) (by unfold maxLen; omega) hb1.size ?_; intro w2 hown2 hgrow2))
  have hb2 : Below w.heap.size w w2 := hb1.grown hgrow2 hb1.size (by simp)
  have hown1' := hown1.kept hgrow2 (Or.inr (by simp [Value.ownBlock]))
  obtain ⟨g2, hg2⟩ : ∃ g2, g2 = w1.heap.size := ⟨_, rfl⟩
  rw [← hg2] at hown2 hlt1
  simp only [← hg2]

  clear hown1 hgrow1 hgrow2 hb1 hg2 w1 hM hr0 hr1
  go_loopw [11, 12, 13] (fun c t i wr => ∃ k : Nat, k ≤ n0 ∧ i = .int .i64 k ∧ c = .slice (some ⟨w.heap.size, 0, none⟩) k n0 ∧ t = .slice (some ⟨g2, 0, none⟩) k n0 ∧
      wr.ownsRow w.heap.size 21 1 (.slice (some ⟨w.heap.size, 0, none⟩) k n0) k (tab .i32 (fun t => ((t : Int) + off) % m) k) ∧ wr.ownsRow w.heap.size 31 1 (.slice (some ⟨g2, 0, none⟩) k n0) k (tab .u64 T0 k) ∧ Below w.heap.size w wr)
    (fun _ _ i _ => n0 - (intOf i).toNat)
  case atStart => exact ⟨0, Nat.zero_le _, rfl, rfl, rfl, hown1', hown2, hb2⟩
  case round =>
    obtain ⟨k, hk, rfl, rfl, rfl, ho1, ho2, hbel⟩ := hrel
    clear hown1' hown2 hb2
    by_cases hlt : k < n0
    · obtain ⟨b, bo, rfl, hbw, hcs⟩ := h0.2.resolve_left (by omega)
      have hc1 : wr.cell? ⟨b, bo + k * 2 + 1, none⟩ = some (.int .u64 (T0 k)) := (hbel.cell (by exact hbw)).trans (hcs k (by omega)).2
      clear hcs h0 h1
      have hbs := hbel.size
      have hr0 : 0 ≤ ((k : Int) + off) % (m : Int) := Int.emod_nonneg _ (by omega)
      have hr1 : ((k : Int) + off) % (m : Int) ≤ 15 := by have := Int.emod_lt_of_pos ((k : Int) + off) (b := (m : Int)) (by omega); omega
      have hne : g2 ≠ w.heap.size := by omega
      have hbs1 : w.heap.size < wr.heap.size := (ho1.lt _ rfl).2
      go_wp2_with (first
        | (at_builtin; refine wpList_append_fits _ rfl (.tmp 49) (.tmp 57) 24 rfl w.heap.size 21 i0 1 Yba.underlying24 hi hz1 w.heap.size k n0 _ rfl (ho1.alloc _) ⟨wr.heap.size, 0, none⟩ 1 1 [.int .i32 (((k : Int) + off) % m)] rfl rfl (one_at (by go_simp)) (by simp; rfl) (by omega) ?_; intro w3 ho1' hgr3; have hcv : w3.cell? ⟨b, bo + k * 2 + 1, none⟩ = some (.int .u64 (T0 k)) := hgr3.cell (by rw [World.cell?_alloc_lt _ _ _ (by show b < _; omega)]; exact hc1) (by simp; omega); have ho2' := (ho2.alloc _).kept hgr3 (Or.inr (by simp [Value.ownBlock]; omega)); have hb3 := (hbel.alloc hbs _).grown hgr3 (by simp; omega) (by simp); clear hc1)
        | (at_builtin; refine wpList_append_fits _ rfl (.tmp 59) (.tmp 65) 23 rfl w.heap.size 31 j0 1 Yba.underlying23 hj hy1 g2 k n0 _ rfl (ho2'.alloc _) ⟨w3.heap.size, 0, none⟩ 1 1 [.int .u64 (T0 k)] rfl rfl (one_at (by go_simp)) (by simp; rfl) (by omega) ?_; intro w4 ho2'' hgr4))
      go_roundw
      case rel =>
        refine ⟨k + 1, by omega, by go_num, rfl, rfl, ?_, ?_, ?_⟩
        · rw [tab_snoc]
          exact (ho1'.alloc _).kept hgr4 (Or.inr (by simp [Value.ownBlock]; omega))
        · rw [tab_snoc]
          exact ho2''
        · exact (hb3.alloc hb3.size _).grown hgr4 (by have := hb3.size; simp; omega) (by simp; omega)
      case measure => simp [intOf]; omega
    · obtain rfl : n0 = k := by omega
      have k1 := SrcRow.of_own ho1
      have k2 := SrcRow.of_own ho2
      clear ho1 ho2 hi hz0 hz1 hz2 hj hy0 hy1 hy2 h0
      obtain ⟨w1, rfl⟩ : ∃ w1, w1 = wr := ⟨_, rfl⟩
      go_wp2_with fail
      refine (split_any a1 n1 c1 C1 T1 m w1 (h1.carry hbel) hn1 hm1 hm2).mono ?_
      rintro e w2 ⟨g3, g4, rfl, hg34, o3, o4, hb2⟩
      have k3 := SrcRow.of_own o3
      have k4 := SrcRow.of_own o4
      replace k1 := k1.carry hb2
      replace k2 := k2.carry hb2
      clear o3 o4 h1
      go_wp2_with fail
      refine (brows_any w.heap.size g2 g3 g4 n0 n1 (fun t => ((t : Int) + off) % m) T0 (fun j => C1 j % (m : Int)) T1 w2 hmm hn1 k1 k2 k3 k4).mono ?_
      rintro e w3 ⟨R, rfl, hrows, hb3⟩
      replace k1 := k1.carry hb3
      replace k2 := k2.carry hb3
      replace k3 := k3.carry hb3
      replace k4 := k4.carry hb3
      go_wp2_with fail
      have hR : R < w3.heap.size := by obtain ⟨_, _, _, _, _, h, _⟩ := hrows; exact h
      refine (newLaid_any R m w3 hm1 hm2 hR).mono ?_
      rintro e w4 ⟨L, H, rfl, hLH, hL, hH, hlaid, hnz, hfL, hfH, hb4⟩
      have hb04 : Below w.heap.size w w3 := (hbel.trans (hb2.mono hbel.size)).trans (hb3.mono (Nat.le_trans hbel.size hb2.size))
      have hw3 : w.heap.size ≤ w3.heap.size := hb04.size
      have hw4 : w3.heap.size ≤ w4.heap.size := hb4.size
      go_wp2_with fail
      refine (lay_any L R H m n0 n1 0 n0 _ _ (fun t => ((t : Int) + off) % m) T0 (fun _ => 0) w4 w3.heap.size w4.heap.size hw4 (Nat.le_refl _) hL hH hLH hmm hn1 hm2 (hrows.carry hb4 (Nat.le_refl _)) hlaid (Or.inl ⟨rfl, rfl, fun j hj => ⟨cat_left hj, cat_left hj⟩⟩) (fun j _ => ⟨Int.emod_nonneg _ (by omega), Int.emod_lt_of_pos _ (by omega)⟩) hnz hfL hfH).mono ?_
      rintro e w5 ⟨rfl, hlr, hb5, hsz5⟩
      have hb35 : Below w3.heap.size w3 w5 := hb4.trans hb5
      have hrow : IsRows w5 w4.heap.size R n0 n1 _ _ := hrows.carry hb35 hw4
      replace k1 := k1.carry hb35
      replace k2 := k2.carry hb35
      replace k3 := k3.carry hb35
      replace k4 := k4.carry hb35
      have hbw : Below w.heap.size w w5 := hb04.trans (hb35.mono hw3)
      clear hrows hb04 hb35 hlaid hnz hfL hfH hb4 hb5 hb2 hb3 hbel
      go_wp2_with fail
      refine (atMost_any L R H m n0 n1 0 n0 _ _ (fun t => ((t : Int) + off) % m) T0 (layTo (fun t => ((t : Int) + off) % m) T0 (fun _ => 0) n0) w5 w4.heap.size hsz5 hmm hn1 hm2 hrow hlr (Or.inl ⟨rfl, rfl, fun j hj => ⟨cat_left hj, cat_left hj⟩⟩) (fun j _ => ⟨Int.emod_nonneg _ (by omega), Int.emod_lt_of_pos _ (by omega)⟩)).mono ?_
      rintro e w6 ⟨rfl, hb6⟩
      rw [laid_self (m := m) (off := off) (n := n0) hmn T0]
      have hw6 : w5.heap.size ≤ w6.heap.size := hb6.size
      replace hrow : IsRows w6 w4.heap.size R n0 n1 _ _ := hrow.carry (hb6.mono hsz5) (Nat.le_refl _)
      replace hlr := hlr.carry (hb6.mono hsz5)
      replace k1 := k1.carry hb6
      replace k2 := k2.carry hb6
      replace k3 := k3.carry hb6
      replace k4 := k4.carry hb6
      replace hbw := hbw.trans (hb6.mono hbw.size)
      replace hsz5 := Nat.le_trans hsz5 hw6
      clear hb6 hw6
      go_wp2
      go_loopw [18, 19] (fun wa i wr => ∃ t : Nat, t ≤ n1 ∧ i = .int .i64 t ∧ wa = .bool (leAll t (fun j => C1 j % (m : Int)) T1 (layTo (fun t => ((t : Int) + off) % m) T0 (fun _ => 0) n0)) ∧ Below w6.heap.size w6 wr) (fun _ i _ => n1 - (intOf i).toNat)
      case atStart => exact ⟨0, Nat.zero_le _, rfl, by rw [leAll_zero], Below.refl _ _⟩
      case round =>
        obtain ⟨t, ht, rfl, rfl, hbq⟩ := hrel
        by_cases hlt : t < n1
        · obtain ⟨c, hc⟩ : ∃ c : Nat, (fun j => C1 j % (m : Int)) t = c := Int.eq_ofNat_of_zero_le (Int.emod_nonneg _ (by omega))
          have hcm : c < m := by have := Int.emod_lt_of_pos (C1 t) (b := (m : Int)) (by omega); simp only at hc; omega
          have k1' := k1.carry hbq
          have k2' := k2.carry hbq
          have x3 : wr.cell? ⟨g3, t, none⟩ = some (.int .i32 c) := by rw [← hc]; exact (k3.carry hbq).2 t hlt
          have x4 : wr.cell? ⟨g4, t, none⟩ = some (.int .u64 (T1 t)) := (k4.carry hbq).2 t hlt
          have z3 : g3 < wr.heap.size := (k3.carry hbq).1
          have z4 : g4 < wr.heap.size := (k4.carry hbq).1
          have HC := hide hc
          clear hc
          obtain ⟨w7, rfl⟩ : ∃ w7, w7 = wr := ⟨_, rfl⟩
          go_wp2
          go_loopw [20, 21] (fun v i wr => ∃ q : Nat, q ≤ n0 ∧ i = .int .i64 q ∧ v = .int .u64 (layTo (fun t => ((t : Int) + off) % m) T0 (fun _ => 0) q c) ∧ Below w7.heap.size w7 wr) (fun _ i _ => n0 - (intOf i).toNat)
          case atStart => exact ⟨0, Nat.zero_le _, rfl, rfl, Below.refl _ _⟩
          case round =>
            obtain ⟨q, hq, rfl, rfl, hbi⟩ := hrel
            have y3 : wr.cell? ⟨g3, t, none⟩ = some (.int .i32 c) := (hbi.cell (by exact z3)).trans x3
            have y4 : wr.cell? ⟨g4, t, none⟩ = some (.int .u64 (T1 t)) := (hbi.cell (by exact z4)).trans x4
            by_cases hqm : q < n0
            · obtain ⟨d, hd⟩ : ∃ d : Nat, (fun t => ((t : Int) + off) % m) q = d := Int.eq_ofNat_of_zero_le (Int.emod_nonneg _ (by omega))
              have y1 : wr.cell? ⟨w.heap.size, q, none⟩ = some (.int .i32 d) := by rw [← hd]; exact (k1'.carry hbi).2 q hqm
              have y2 : wr.cell? ⟨g2, q, none⟩ = some (.int .u64 (T0 q)) := (k2'.carry hbi).2 q hqm
              have HD := hide hd
              clear hd x3 x4 k1' k2'
              by_cases hdc : d = c
              · subst hdc
                go_wp2
                go_quiet (fail)
                go_wp2
                go_roundw
                case rel => exact ⟨q + 1, by omega, by go_num, by rw [layTo_here (f := (fun t => ((t : Int) + off) % m)) HD.out], below_drewN hbi _⟩
                case measure => simp [intOf]; omega
              · have hdb : ((d : Int) == (c : Int)) = false := by simp; omega
                go_wp2
                go_quiet (fail)
                go_wp2
                go_roundw
                case rel => exact ⟨q + 1, by omega, by go_num, by rw [layTo_else (f := (fun t => ((t : Int) + off) % m)) HD.out hdc], below_drewN hbi _⟩
                case measure => simp [intOf]; omega
            · obtain rfl : n0 = q := by omega
              clear x3 x4 k1' k2'
              by_cases hgt : layTo (fun t => ((t : Int) + off) % m) T0 (fun _ => 0) n0 c < T1 t
              · go_wp2
                go_roundw
                case rel => exact ⟨t + 1, by omega, by go_num, by rw [leAll_snoc_no (f := (fun j => C1 j % (m : Int))) HC.out hgt], hbq.trans (hbi.mono hbq.size)⟩
                case measure => simp [intOf]; omega
              · go_wp2
                go_roundw
                case rel => exact ⟨t + 1, by omega, by go_num, by rw [leAll_snoc_yes (f := (fun j => C1 j % (m : Int))) HC.out (by omega)], hbq.trans (hbi.mono hbq.size)⟩
                case measure => simp [intOf]; omega
        · obtain rfl : n1 = t := by omega
          go_wp2_with fail
          refine (atMost_any L R H m n0 n1 1 n1 _ _ (fun j => C1 j % (m : Int)) T1 (layTo (fun t => ((t : Int) + off) % m) T0 (fun _ => 0) n0) wr w4.heap.size (Nat.le_trans hsz5 hbq.size) hmm hn1 hm2 (hrow.carry (hbq.mono hsz5) (Nat.le_refl _)) (hlr.carry (hbq.mono hsz5)) (Or.inr ⟨rfl, rfl, fun j hj => ⟨cat_right, cat_right⟩⟩) (fun j _ => ⟨Int.emod_nonneg _ (by omega), Int.emod_lt_of_pos _ (by omega)⟩)).mono ?_
          rintro e w9 ⟨rfl, hb9⟩
          go_wp2
          go_ret
          exact ⟨by simp, (hbw.trans (hbq.mono hbw.size)).trans (hb9.mono (Nat.le_trans hbw.size hbq.size))⟩

set_option maxHeartbeats 2000000 in
set_option maxRecDepth 100000 in
theorem laid_walk_large (r : Int) (off : Nat) (a0 : Option Addr) (n0 c0 : Nat) (C0 T0 : Nat → Int) (a1 : Option Addr) (n1 c1 : Nat) (C1 T1 : Nat → Int) (w : World)
    (hr : 0 ≤ r ∧ r ≤ 255) (hoff : off ≤ 255) (h0 : IsEnts w a0 n0 C0 T0) (h1 : IsEnts w a1 n1 C1 T1) (hn0 : n0 ≤ 1024) (hn1 : n1 ≤ 1024) (hcase : 1 + r % 16 < (n0 : Int)) :
    Calls Yba.prog 4 #[.int .u8 r, .int .u8 off, .slice a0 n0 c0, .slice a1 n1 c1] w fun e w' => e = .returned (.bool true) ∧ Below w.heap.size w w' := by
  obtain ⟨hr0, hr1⟩ := hr
  obtain ⟨i0, hi, hz0, hz1, hz2⟩ := info_parts Yba.info21
  obtain ⟨j0, hj, hy0, hy1, hy2⟩ := info_parts Yba.info31
  obtain ⟨m, hM⟩ : ∃ m : Nat, (1 + r % 16 : Int) = m := Int.eq_ofNat_of_zero_le (by omega)
  have hm1 : 1 ≤ m := by omega
  have hm2 : m ≤ 16 := by omega
  have hmm : m ≤ 1024 := by omega
  have hmn : m ≤ m := Nat.le_refl _
  have hm0 : m < n0 := by omega
  clear hcase
  go_enter Yba.func4, Yba.ntmps4
  go_wp2_with (first
    | (at_make; refine wpList_make_own _ rfl _ _ 24 rfl w.heap.size 21 i0 (.int .i32 0) 1 Yba.underlying24 hi hz0 hz1 _ _ _ m rfl rfl (by omega) (by rw [hz2]; omega) (by unfold maxLen; omega) (Nat.le_refl _) ?_; intro w1 hown1 hgrow1; have hb1 := (Below.refl w.heap.size w).grown hgrow1 (Nat.le_refl _) (by simp); have hlt1 : w.heap.size < w1.heap.size := (hown1.lt _ rfl).2)
    | (at_make; refine wpList_make_own _ rfl _ _ 23 rfl w.heap.size 31 j0 (.int .u64 0) 1 Yba.underlying23 hj hy0 hy1 _ _ _ m rfl rfl (by omega) (by rw [hy2]; omega) (by unfold maxLen; omega) hb1.size ?_; intro w2 hown2 hgrow2))
  have hb2 : Below w.heap.size w w2 := hb1.grown hgrow2 hb1.size (by simp)
  have hown1' := hown1.kept hgrow2 (Or.inr (by simp [Value.ownBlock]))
  obtain ⟨g2, hg2⟩ : ∃ g2, g2 = w1.heap.size := ⟨_, rfl⟩
  rw [← hg2] at hown2 hlt1
  simp only [← hg2]

  clear hown1 hgrow1 hgrow2 hb1 hg2 w1 hM hr0 hr1
  go_loopw [11, 12, 13] (fun c t i wr => ∃ k : Nat, k ≤ m ∧ i = .int .i64 k ∧ c = .slice (some ⟨w.heap.size, 0, none⟩) k m ∧ t = .slice (some ⟨g2, 0, none⟩) k m ∧
      wr.ownsRow w.heap.size 21 1 (.slice (some ⟨w.heap.size, 0, none⟩) k m) k (tab .i32 (fun t => ((t : Int) + off) % m) k) ∧ wr.ownsRow w.heap.size 31 1 (.slice (some ⟨g2, 0, none⟩) k m) k (tab .u64 T0 k) ∧ Below w.heap.size w wr)
    (fun _ _ i _ => m - (intOf i).toNat)
  case atStart => exact ⟨0, Nat.zero_le _, rfl, rfl, rfl, hown1', hown2, hb2⟩
  case round =>
    obtain ⟨k, hk, rfl, rfl, rfl, ho1, ho2, hbel⟩ := hrel
    clear hown1' hown2 hb2
    by_cases hlt : k < m
    · obtain ⟨b, bo, rfl, hbw, hcs⟩ := h0.2.resolve_left (by omega)
      have hc1 : wr.cell? ⟨b, bo + k * 2 + 1, none⟩ = some (.int .u64 (T0 k)) := (hbel.cell (by exact hbw)).trans (hcs k (by omega)).2
      clear hcs h0 h1
      have hbs := hbel.size
      have hr0 : 0 ≤ ((k : Int) + off) % (m : Int) := Int.emod_nonneg _ (by omega)
      have hr1 : ((k : Int) + off) % (m : Int) ≤ 15 := by have := Int.emod_lt_of_pos ((k : Int) + off) (b := (m : Int)) (by omega); omega
      have hne : g2 ≠ w.heap.size := by omega
      have hbs1 : w.heap.size < wr.heap.size := (ho1.lt _ rfl).2
      go_wp2_with (first
        | (at_builtin; refine wpList_append_fits _ rfl (.tmp 49) (.tmp 57) 24 rfl w.heap.size 21 i0 1 Yba.underlying24 hi hz1 w.heap.size k m _ rfl (ho1.alloc _) ⟨wr.heap.size, 0, none⟩ 1 1 [.int .i32 (((k : Int) + off) % m)] rfl rfl (one_at (by go_simp)) (by simp; rfl) (by omega) ?_; intro w3 ho1' hgr3; have hcv : w3.cell? ⟨b, bo + k * 2 + 1, none⟩ = some (.int .u64 (T0 k)) := hgr3.cell (by rw [World.cell?_alloc_lt _ _ _ (by show b < _; omega)]; exact hc1) (by simp; omega); have ho2' := (ho2.alloc _).kept hgr3 (Or.inr (by simp [Value.ownBlock]; omega)); have hb3 := (hbel.alloc hbs _).grown hgr3 (by simp; omega) (by simp); clear hc1)
        | (at_builtin; refine wpList_append_fits _ rfl (.tmp 59) (.tmp 65) 23 rfl w.heap.size 31 j0 1 Yba.underlying23 hj hy1 g2 k m _ rfl (ho2'.alloc _) ⟨w3.heap.size, 0, none⟩ 1 1 [.int .u64 (T0 k)] rfl rfl (one_at (by go_simp)) (by simp; rfl) (by omega) ?_; intro w4 ho2'' hgr4))
      go_roundw
      case rel =>
        refine ⟨k + 1, by omega, by go_num, rfl, rfl, ?_, ?_, ?_⟩
        · rw [tab_snoc]
          exact (ho1'.alloc _).kept hgr4 (Or.inr (by simp [Value.ownBlock]; omega))
        · rw [tab_snoc]
          exact ho2''
        · exact (hb3.alloc hb3.size _).grown hgr4 (by have := hb3.size; simp; omega) (by simp; omega)
      case measure => simp [intOf]; omega
    · obtain rfl : m = k := by omega
      have k1 := SrcRow.of_own ho1
      have k2 := SrcRow.of_own ho2
      clear ho1 ho2 hi hz0 hz1 hz2 hj hy0 hy1 hy2 h0
      obtain ⟨w1, rfl⟩ : ∃ w1, w1 = wr := ⟨_, rfl⟩
      go_wp2_with fail
      refine (split_any a1 n1 c1 C1 T1 m w1 (h1.carry hbel) hn1 hm1 hm2).mono ?_
      rintro e w2 ⟨g3, g4, rfl, hg34, o3, o4, hb2⟩
      have k3 := SrcRow.of_own o3
      have k4 := SrcRow.of_own o4
      replace k1 := k1.carry hb2
      replace k2 := k2.carry hb2
      clear o3 o4 h1
      go_wp2_with fail
      refine (brows_any w.heap.size g2 g3 g4 m n1 (fun t => ((t : Int) + off) % m) T0 (fun j => C1 j % (m : Int)) T1 w2 hmm hn1 k1 k2 k3 k4).mono ?_
      rintro e w3 ⟨R, rfl, hrows, hb3⟩
      replace k1 := k1.carry hb3
      replace k2 := k2.carry hb3
      replace k3 := k3.carry hb3
      replace k4 := k4.carry hb3
      go_wp2_with fail
      have hR : R < w3.heap.size := by obtain ⟨_, _, _, _, _, h, _⟩ := hrows; exact h
      refine (newLaid_any R m w3 hm1 hm2 hR).mono ?_
      rintro e w4 ⟨L, H, rfl, hLH, hL, hH, hlaid, hnz, hfL, hfH, hb4⟩
      have hb04 : Below w.heap.size w w3 := (hbel.trans (hb2.mono hbel.size)).trans (hb3.mono (Nat.le_trans hbel.size hb2.size))
      have hw3 : w.heap.size ≤ w3.heap.size := hb04.size
      have hw4 : w3.heap.size ≤ w4.heap.size := hb4.size
      go_wp2_with fail
      refine (lay_any L R H m m n1 0 m _ _ (fun t => ((t : Int) + off) % m) T0 (fun _ => 0) w4 w3.heap.size w4.heap.size hw4 (Nat.le_refl _) hL hH hLH hmm hn1 hm2 (hrows.carry hb4 (Nat.le_refl _)) hlaid (Or.inl ⟨rfl, rfl, fun j hj => ⟨cat_left hj, cat_left hj⟩⟩) (fun j _ => ⟨Int.emod_nonneg _ (by omega), Int.emod_lt_of_pos _ (by omega)⟩) hnz hfL hfH).mono ?_
      rintro e w5 ⟨rfl, hlr, hb5, hsz5⟩
      have hb35 : Below w3.heap.size w3 w5 := hb4.trans hb5
      have hrow : IsRows w5 w4.heap.size R m n1 _ _ := hrows.carry hb35 hw4
      replace k1 := k1.carry hb35
      replace k2 := k2.carry hb35
      replace k3 := k3.carry hb35
      replace k4 := k4.carry hb35
      have hbw : Below w.heap.size w w5 := hb04.trans (hb35.mono hw3)
      clear hrows hb04 hb35 hlaid hnz hfL hfH hb4 hb5 hb2 hb3 hbel
      go_wp2_with fail
      refine (atMost_any L R H m m n1 0 m _ _ (fun t => ((t : Int) + off) % m) T0 (layTo (fun t => ((t : Int) + off) % m) T0 (fun _ => 0) m) w5 w4.heap.size hsz5 hmm hn1 hm2 hrow hlr (Or.inl ⟨rfl, rfl, fun j hj => ⟨cat_left hj, cat_left hj⟩⟩) (fun j _ => ⟨Int.emod_nonneg _ (by omega), Int.emod_lt_of_pos _ (by omega)⟩)).mono ?_
      rintro e w6 ⟨rfl, hb6⟩
      rw [laid_self (m := m) (off := off) (n := m) hmn T0]
      have hw6 : w5.heap.size ≤ w6.heap.size := hb6.size
      replace hrow : IsRows w6 w4.heap.size R m n1 _ _ := hrow.carry (hb6.mono hsz5) (Nat.le_refl _)
      replace hlr := hlr.carry (hb6.mono hsz5)
      replace k1 := k1.carry hb6
      replace k2 := k2.carry hb6
      replace k3 := k3.carry hb6
      replace k4 := k4.carry hb6
      replace hbw := hbw.trans (hb6.mono hbw.size)
      replace hsz5 := Nat.le_trans hsz5 hw6
      clear hb6 hw6
      go_wp2
      go_loopw [18, 19] (fun wa i wr => ∃ t : Nat, t ≤ n1 ∧ i = .int .i64 t ∧ wa = .bool (leAll t (fun j => C1 j % (m : Int)) T1 (layTo (fun t => ((t : Int) + off) % m) T0 (fun _ => 0) m)) ∧ Below w6.heap.size w6 wr) (fun _ i _ => n1 - (intOf i).toNat)
      case atStart => exact ⟨0, Nat.zero_le _, rfl, by rw [leAll_zero], Below.refl _ _⟩
      case round =>
        obtain ⟨t, ht, rfl, rfl, hbq⟩ := hrel
        by_cases hlt : t < n1
        · obtain ⟨c, hc⟩ : ∃ c : Nat, (fun j => C1 j % (m : Int)) t = c := Int.eq_ofNat_of_zero_le (Int.emod_nonneg _ (by omega))
          have hcm : c < m := by have := Int.emod_lt_of_pos (C1 t) (b := (m : Int)) (by omega); simp only at hc; omega
          have k1' := k1.carry hbq
          have k2' := k2.carry hbq
          have x3 : wr.cell? ⟨g3, t, none⟩ = some (.int .i32 c) := by rw [← hc]; exact (k3.carry hbq).2 t hlt
          have x4 : wr.cell? ⟨g4, t, none⟩ = some (.int .u64 (T1 t)) := (k4.carry hbq).2 t hlt
          have z3 : g3 < wr.heap.size := (k3.carry hbq).1
          have z4 : g4 < wr.heap.size := (k4.carry hbq).1
          have HC := hide hc
          clear hc
          obtain ⟨w7, rfl⟩ : ∃ w7, w7 = wr := ⟨_, rfl⟩
          go_wp2
          go_loopw [20, 21] (fun v i wr => ∃ q : Nat, q ≤ m ∧ i = .int .i64 q ∧ v = .int .u64 (layTo (fun t => ((t : Int) + off) % m) T0 (fun _ => 0) q c) ∧ Below w7.heap.size w7 wr) (fun _ i _ => m - (intOf i).toNat)
          case atStart => exact ⟨0, Nat.zero_le _, rfl, rfl, Below.refl _ _⟩
          case round =>
            obtain ⟨q, hq, rfl, rfl, hbi⟩ := hrel
            have y3 : wr.cell? ⟨g3, t, none⟩ = some (.int .i32 c) := (hbi.cell (by exact z3)).trans x3
            have y4 : wr.cell? ⟨g4, t, none⟩ = some (.int .u64 (T1 t)) := (hbi.cell (by exact z4)).trans x4
            by_cases hqm : q < m
            · obtain ⟨d, hd⟩ : ∃ d : Nat, (fun t => ((t : Int) + off) % m) q = d := Int.eq_ofNat_of_zero_le (Int.emod_nonneg _ (by omega))
              have y1 : wr.cell? ⟨w.heap.size, q, none⟩ = some (.int .i32 d) := by rw [← hd]; exact (k1'.carry hbi).2 q hqm
              have y2 : wr.cell? ⟨g2, q, none⟩ = some (.int .u64 (T0 q)) := (k2'.carry hbi).2 q hqm
              have HD := hide hd
              clear hd x3 x4 k1' k2'
              by_cases hdc : d = c
              · subst hdc
                go_wp2
                go_quiet (fail)
                go_wp2
                go_roundw
                case rel => exact ⟨q + 1, by omega, by go_num, by rw [layTo_here (f := (fun t => ((t : Int) + off) % m)) HD.out], below_drewN hbi _⟩
                case measure => simp [intOf]; omega
              · have hdb : ((d : Int) == (c : Int)) = false := by simp; omega
                go_wp2
                go_quiet (fail)
                go_wp2
                go_roundw
                case rel => exact ⟨q + 1, by omega, by go_num, by rw [layTo_else (f := (fun t => ((t : Int) + off) % m)) HD.out hdc], below_drewN hbi _⟩
                case measure => simp [intOf]; omega
            · obtain rfl : m = q := by omega
              clear x3 x4 k1' k2'
              by_cases hgt : layTo (fun t => ((t : Int) + off) % m) T0 (fun _ => 0) m c < T1 t
              · go_wp2
                go_roundw
                case rel => exact ⟨t + 1, by omega, by go_num, by rw [leAll_snoc_no (f := (fun j => C1 j % (m : Int))) HC.out hgt], hbq.trans (hbi.mono hbq.size)⟩
                case measure => simp [intOf]; omega
              · go_wp2
                go_roundw
                case rel => exact ⟨t + 1, by omega, by go_num, by rw [leAll_snoc_yes (f := (fun j => C1 j % (m : Int))) HC.out (by omega)], hbq.trans (hbi.mono hbq.size)⟩
                case measure => simp [intOf]; omega
        · obtain rfl : n1 = t := by omega
          go_wp2_with fail
          refine (atMost_any L R H m m n1 1 n1 _ _ (fun j => C1 j % (m : Int)) T1 (layTo (fun t => ((t : Int) + off) % m) T0 (fun _ => 0) m) wr w4.heap.size (Nat.le_trans hsz5 hbq.size) hmm hn1 hm2 (hrow.carry (hbq.mono hsz5) (Nat.le_refl _)) (hlr.carry (hbq.mono hsz5)) (Or.inr ⟨rfl, rfl, fun j hj => ⟨cat_right, cat_right⟩⟩) (fun j _ => ⟨Int.emod_nonneg _ (by omega), Int.emod_lt_of_pos _ (by omega)⟩)).mono ?_
          rintro e w9 ⟨rfl, hb9⟩
          go_wp2
          go_ret
          exact ⟨by simp, (hbw.trans (hbq.mono hbw.size)).trans (hb9.mono (Nat.le_trans hbw.size hbq.size))⟩
end Go.Proofs.Ybulklfu
