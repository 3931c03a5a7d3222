import Derived.Test.YbulklfuMake
import Derived.RegionTactic
namespace Go.Proofs.Ybulklfu
open Go.RowKit
set_option linter.unusedVariables false

theorem IsEnts.carry {w w' : World} {a : Option Addr} {len : Nat} {C T : Nat → Int} (h : IsEnts w a len C T) (hb : Below w.heap.size w w') : IsEnts w' a len C T := by
  obtain ⟨h1, h2⟩ := h
  refine ⟨h1, ?_⟩
  rcases h2 with h2 | ⟨b, off, ha, hb', hc⟩
  · exact Or.inl h2
  · refine Or.inr ⟨b, off, ha, Nat.lt_of_lt_of_le hb' hb.size, fun i hi => ?_⟩
    rw [hb.cell (by exact hb'), hb.cell (by exact hb')]
    exact hc i hi

/-- A slice of numbers that came in. -/
def IsNums (w : World) (k : IntKind) (a : Option Addr) (len : Nat) (Z : Nat → Int) : Prop :=
  len = 0 ∨ ∃ b off, a = some ⟨b, off, none⟩ ∧ b < w.heap.size ∧ ∀ i, i < len → w.cell? ⟨b, off + i, none⟩ = some (.int k (Z i))

theorem IsNums.carry {w w' : World} {k : IntKind} {a : Option Addr} {len : Nat} {Z : Nat → Int} (h : IsNums w k a len Z) (hb : Below w.heap.size w w') : IsNums w' k a len Z := by
  rcases h with h | ⟨b, off, ha, hb', hc⟩
  · exact Or.inl h
  · refine Or.inr ⟨b, off, ha, Nat.lt_of_lt_of_le hb' hb.size, fun i hi => ?_⟩
    rw [hb.cell (by exact hb')]
    exact hc i hi

def laidK (Z : Nat → Int) (k j : Nat) : Int := if j < k then Z j else 0

theorem leAll_zero (f g laid : Nat → Int) : leAll 0 f g laid = true := decide_eq_true fun j hj => absurd hj (by omega)
theorem leAll_snoc_no {t : Nat} {f g laid : Nat → Int} {c : Nat} (hc : f t = c) (h : laid c < g t) : leAll (t + 1) f g laid = false := leAll_no (by omega) hc h
theorem leAll_snoc_yes {t : Nat} {f g laid : Nat → Int} {c : Nat} (hc : f t = c) (h : g t ≤ laid c) : leAll (t + 1) f g laid = leAll t f g laid := by
  unfold leAll
  rw [decide_eq_decide]
  exact ⟨fun hall j hj => hall j (by omega), fun hall => le_snoc hall hc h⟩

theorem IsLaid.congr {w : World} {N L R H m : Nat} {f g : Nat → Int} (h : IsLaid w N L R H m f) (e : ∀ j, j < m → f j = g j) : IsLaid w N L R H m g := by
  obtain ⟨a, b, c, d, k⟩ := h
  exact ⟨a, b, c, d, fun j hj => by rw [← e j hj]; exact k j hj⟩

/-- One counter laid. -/
theorem IsLaid.set {w : World} {N L R H m c : Nat} {f : Nat → Int} (h : IsLaid w N L R H m f) (hLH : L ≠ H) (hc : c < m) (v : Int) : IsLaid (w.setCell ⟨H, c, none⟩ (.int .u64 v)) N L R H m (fun j => if j = c then v else f j) := by
  obtain ⟨a, b, l2, l3, l4⟩ := h
  refine ⟨a, b, ?_, ?_, fun j hj => ?_⟩
  · rw [World.cell?_setCell_other _ _ _ _ (by simp)]; exact l2
  · rw [World.cell?_setCell_other _ _ _ _ (by simp)]; exact l3
  · by_cases e : j = c
    · subst e
      rw [World.cell?_setCell_same _ _ _ (l4 j hj)]
      simp
    · rw [World.cell?_setCell_other _ _ _ _ (by simp)]
      simp only [if_neg e]
      exact l4 j hj

theorem laid_snoc {w : World} {N L R H m k : Nat} {Z : Nat → Int} (h : IsLaid w N L R H m (laidK Z k)) (hLH : L ≠ H) (hk : k < m) : IsLaid (w.setCell ⟨H, k, none⟩ (.int .u64 (Z k))).drew N L R H m (laidK Z (k + 1)) := by
  have h' : IsLaid (w.setCell ⟨H, k, none⟩ (.int .u64 (Z k))) N L R H m (laidK Z (k + 1)) := by
    refine (h.set hLH hk (Z k)).congr fun j hj => ?_
    unfold laidK
    by_cases e : j = k
    · subst e; simp
    · rw [if_neg e]; split <;> split <;> first | rfl | omega
  exact h'

set_option maxHeartbeats 1000000 in
set_option maxRecDepth 100000 in
theorem exact_walk (r s : Int) (a0 : Option Addr) (n0 c0 : Nat) (C0 T0 : Nat → Int) (a1 : Option Addr) (n1 c1 : Nat) (C1 T1 : Nat → Int) (a2 : Option Addr) (n2 c2 : Nat) (Z : Nat → Int) (w : World)
    (hr : 0 ≤ r ∧ r ≤ 255) (hs : 0 ≤ s ∧ s ≤ 255) (h0 : IsEnts w a0 n0 C0 T0) (h1 : IsEnts w a1 n1 C1 T1) (h2 : IsNums w .u64 a2 n2 Z) (hn0 : n0 ≤ 1024) (hn1 : n1 ≤ 1024) (hn2 : n2 ≤ 1024) :
    Calls Yba.prog 3 #[.int .u8 r, .slice a0 n0 c0, .slice a1 n1 c1, .slice a2 n2 c2, .int .u8 s] w fun e w' => e = .returned (.bool true) ∧ Below w.heap.size w w' := by
  obtain ⟨hr0, hr1⟩ := hr
  obtain ⟨hs0, hs1⟩ := hs
  have hsel : s % 2 = 0 ∨ s % 2 = 1 := by omega
  go_enter Yba.func3, Yba.ntmps3
  go_wp2_with fail
  generalize hM : (1 + r % 16 : Int) = M
  obtain ⟨m, rfl⟩ : ∃ m : Nat, M = m := Int.eq_ofNat_of_zero_le (by omega)
  have hm1 : 1 ≤ m := by omega
  have hm2 : m ≤ 16 := by omega
  refine (split_any a0 n0 c0 C0 T0 m w h0 hn0 hm1 hm2).mono ?_
  rintro e w1 ⟨g1, g2, rfl, hg12, o1, o2, hb1⟩
  have k1 := SrcRow.of_own o1
  have k2 := SrcRow.of_own o2
  clear o1 o2 hM
  go_wp2_with fail
  refine (split_any a1 n1 c1 C1 T1 m w1 (h1.carry hb1) hn1 hm1 hm2).mono ?_
  rintro e w2 ⟨g3, g4, rfl, hg34, o3, o4, hb2⟩
  have k3 := SrcRow.of_own o3
  have k4 := SrcRow.of_own o4
  replace k1 := k1.carry hb2
  replace k2 := k2.carry hb2
  clear o3 o4
  go_wp2_with fail
  refine (brows_any g1 g2 g3 g4 n0 n1 (fun i => C0 i % m) T0 (fun i => C1 i % m) T1 w2 hn0 hn1 k1 k2 k3 k4).mono ?_
  rintro e w3 ⟨R, rfl, hrows, hb3⟩
  replace k1 := k1.carry hb3
  replace k2 := k2.carry hb3
  replace k3 := k3.carry hb3
  replace k4 := k4.carry hb3
  go_wp2_with fail
  have hR : R < w3.heap.size := by obtain ⟨_, _, _, _, _, h, _⟩ := hrows; exact h
  refine (newLaid_any R m w3 hm1 hm2 hR).mono ?_
  rintro e w4 ⟨L, H, rfl, hLH, hL, hH, hlaid, hnz, hfL, hfH, hb4⟩
  have hb04 : Below w.heap.size w w3 := (hb1.trans (hb2.mono hb1.size)).trans (hb3.mono (Nat.le_trans hb1.size hb2.size))
  have hw3 : w.heap.size ≤ w3.heap.size := hb04.size
  have hw4 : w3.heap.size ≤ w4.heap.size := hb4.size
  replace h2 : IsNums w3 .u64 a2 n2 Z := h2.carry hb04
  clear hb1 hb2 hb3 h0 h1
  go_wp2_with fail
  go_loopw [18] (fun i wr => ∃ k : Nat, k ≤ m ∧ k ≤ n2 ∧ i = .int .i64 k ∧ Below w3.heap.size w3 wr ∧ IsLaid wr w4.heap.size L R H m (laidK Z k) ∧ (∀ j, wr.frozen? ⟨H, j, none⟩ = false) ∧ w4.heap.size ≤ wr.heap.size)
    (fun i _ => m - (intOf i).toNat)
  case atStart => exact ⟨0, Nat.zero_le _, Nat.zero_le _, rfl, hb4, hlaid, hfH, Nat.le_refl _⟩
  case round =>
    obtain ⟨k, hkm, hkn, rfl, hbr, hlr, hfr, hsz⟩ := hrel
    clear hlaid hnz hfL hfH
    by_cases hlt : k < m ∧ k < n2
    · obtain ⟨ht1, ht2⟩ := hlt
      obtain ⟨b, off, rfl, hbw, hz⟩ := h2.resolve_left (by omega)
      obtain ⟨l0, l1, l2, l3, l4⟩ := id hlr
      have x1 : wr.cell? ⟨b, off + k, none⟩ = some (.int .u64 (Z k)) := (hbr.cell (by exact hbw)).trans (hz k ht2)
      have x2 := l4 k ht1
      have x3 := hfr k
      have HF := hide hfr
      clear hz l4 l2 hfr
      go_wp2
      go_region
      go_wp2
      go_roundw
      case rel => exact ⟨k + 1, by omega, by omega, by go_num, (hbr.setCell (by exact hH) _).drew, laid_snoc hlr hLH ht1, fun j => by simpa using HF.out j, by simpa using hsz⟩
      case measure => simp [intOf]; omega
    · have hlz : ∀ j, j < m → laidK Z k j = laidK Z n2 j := by
        intro j hj
        unfold laidK
        split <;> split <;> first | rfl | omega
      replace hlr := hlr.congr hlz
      clear hlz
      have hrow : IsRows wr w4.heap.size R n0 n1 _ _ := hrows.carry hbr hw4
      replace k1 := k1.carry hbr
      replace k2 := k2.carry hbr
      replace k3 := k3.carry hbr
      replace k4 := k4.carry hbr
      have hbw : Below w.heap.size w wr := hb04.trans (hbr.mono hw3)
      have hk2 : k < m → ¬ k < n2 := by omega
      clear hlt
      clear hrows hb04 hbr h2 hfr hb4
      obtain ⟨w5, rfl⟩ : ∃ w5, w5 = wr := ⟨_, rfl⟩
      rcases hsel with hsel | hsel
      · by_cases hk : k < m
        all_goals
          try replace hk2 := hk2 hk
          go_wp2
          clear hk2 hk hsel
          go_loopw [22, 23] (fun wa i wr => ∃ t : Nat, t ≤ n0 ∧ i = .int .i64 t ∧ wa = .bool (leAll t (fun j => C0 j % (m : Int)) T0 (laidK Z n2)) ∧ Below w5.heap.size w5 wr) (fun _ i _ => n0 - (intOf i).toNat)
          case atStart => exact ⟨0, Nat.zero_le _, rfl, by rw [leAll_zero], Below.refl _ _⟩
          case round =>
            obtain ⟨t, ht, rfl, rfl, hbq⟩ := hrel
            by_cases hlt : t < n0
            · obtain ⟨l0, l1, l2, l3, l4⟩ := hlr.carry (hbq.mono hsz)
              obtain ⟨c, hc⟩ : ∃ c : Nat, (fun j => C0 j % (m : Int)) t = c := Int.eq_ofNat_of_zero_le (Int.emod_nonneg _ (by omega))
              have hcm : c < m := by have := Int.emod_lt_of_pos (C0 t) (b := (m : Int)) (by omega); simp only at hc; omega
              have x1 : wr.cell? ⟨g1, t, none⟩ = some (.int .i32 c) := by rw [← hc]; exact (k1.carry hbq).2 t hlt
              have x2 : wr.cell? ⟨g2, t, none⟩ = some (.int .u64 (T0 t)) := (k2.carry hbq).2 t hlt
              have x3 := l4 c hcm
              have HC := hide hc
              clear l4 hc
              by_cases hgt : laidK Z n2 c < T0 t
              · go_wp2
                go_quiet (fail)
                go_wp2
                go_roundw
                case rel => exact ⟨t + 1, by omega, by go_num, by rw [leAll_snoc_no HC.out hgt], below_drewN hbq _⟩
                case measure => simp [intOf]; omega
              · go_wp2
                go_quiet (fail)
                go_wp2
                go_roundw
                case rel => exact ⟨t + 1, by omega, by go_num, by rw [leAll_snoc_yes HC.out (by omega)], below_drewN hbq _⟩
                case measure => simp [intOf]; omega
            · obtain rfl : n0 = t := by omega
              go_wp2_with fail
              refine (atMost_any L R H m n0 n1 0 n0 _ _ (fun j => C0 j % (m : Int)) T0 (laidK Z n2) wr w4.heap.size (Nat.le_trans hsz hbq.size) hn0 hn1 hm2 (hrow.carry (hbq.mono hsz) (Nat.le_refl _)) (hlr.carry (hbq.mono hsz)) (Or.inl ⟨rfl, rfl, fun j hj => ⟨cat_left hj, cat_left hj⟩⟩) (fun j _ => ⟨Int.emod_nonneg _ (by omega), Int.emod_lt_of_pos _ (by omega)⟩)).mono ?_
              rintro e w9 ⟨rfl, hb9⟩
              go_wp2
              go_ret
              exact ⟨by simp, (hbw.trans (hbq.mono hbw.size)).trans (hb9.mono (Nat.le_trans hbw.size hbq.size))⟩
      · by_cases hk : k < m
        all_goals
          try replace hk2 := hk2 hk
          go_wp2
          clear hk2 hk hsel
          go_loopw [22, 23] (fun wa i wr => ∃ t : Nat, t ≤ n1 ∧ i = .int .i64 t ∧ wa = .bool (leAll t (fun j => C1 j % (m : Int)) T1 (laidK Z n2)) ∧ Below w5.heap.size w5 wr) (fun _ i _ => n1 - (intOf i).toNat)
          case atStart => exact ⟨0, Nat.zero_le _, rfl, by rw [leAll_zero], Below.refl _ _⟩
          case round =>
            obtain ⟨t, ht, rfl, rfl, hbq⟩ := hrel
            by_cases hlt : t < n1
            · obtain ⟨l0, l1, l2, l3, l4⟩ := hlr.carry (hbq.mono hsz)
              obtain ⟨c, hc⟩ : ∃ c : Nat, (fun j => C1 j % (m : Int)) t = c := Int.eq_ofNat_of_zero_le (Int.emod_nonneg _ (by omega))
              have hcm : c < m := by have := Int.emod_lt_of_pos (C1 t) (b := (m : Int)) (by omega); simp only at hc; omega
              have x1 : wr.cell? ⟨g3, t, none⟩ = some (.int .i32 c) := by rw [← hc]; exact (k3.carry hbq).2 t hlt
              have x2 : wr.cell? ⟨g4, t, none⟩ = some (.int .u64 (T1 t)) := (k4.carry hbq).2 t hlt
              have x3 := l4 c hcm
              have HC := hide hc
              clear l4 hc
              by_cases hgt : laidK Z n2 c < T1 t
              · go_wp2
                go_quiet (fail)
                go_wp2
                go_roundw
                case rel => exact ⟨t + 1, by omega, by go_num, by rw [leAll_snoc_no HC.out hgt], below_drewN hbq _⟩
                case measure => simp [intOf]; omega
              · go_wp2
                go_quiet (fail)
                go_wp2
                go_roundw
                case rel => exact ⟨t + 1, by omega, by go_num, by rw [leAll_snoc_yes HC.out (by omega)], below_drewN hbq _⟩
                case measure => simp [intOf]; omega
            · obtain rfl : n1 = t := by omega
              go_wp2_with fail
              refine (atMost_any L R H m n0 n1 1 n1 _ _ (fun j => C1 j % (m : Int)) T1 (laidK Z n2) wr w4.heap.size (Nat.le_trans hsz hbq.size) hn0 hn1 hm2 (hrow.carry (hbq.mono hsz) (Nat.le_refl _)) (hlr.carry (hbq.mono hsz)) (Or.inr ⟨rfl, rfl, fun j hj => ⟨cat_right, cat_right⟩⟩) (fun j _ => ⟨Int.emod_nonneg _ (by omega), Int.emod_lt_of_pos _ (by omega)⟩)).mono ?_
              rintro e w9 ⟨rfl, hb9⟩
              go_wp2
              go_ret
              exact ⟨by simp, (hbw.trans (hbq.mono hbw.size)).trans (hb9.mono (Nat.le_trans hbw.size hbq.size))⟩
end Go.Proofs.Ybulklfu
