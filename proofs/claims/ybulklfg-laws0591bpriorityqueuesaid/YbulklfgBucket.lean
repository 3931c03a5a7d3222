import Derived.Test.YbulklfgCal
import Derived.Laws.BitsLemmas
namespace Go.Proofs.Ybulklfg
open Go.RowKit
set_option linter.unusedVariables false

theorem eqNil1 (a : Addr) (n m : Nat) (w : World) : (binOp .eql 61 (.slice (some a) n m) (.slice none 0 0)).run Yba.prog w = .ok (.bool false) w := by kernel_rfl
theorem eqNil0 (w : World) : (binOp .eql 61 (.slice none 0 0) (.slice none 0 0)).run Yba.prog w = .ok (.bool true) w := by kernel_rfl

theorem bits_and_i64_nat (a b : Nat) (ha : a < 9223372036854775808) (hb : b < 9223372036854775808) : bits .and .i64 (a : Int) (b : Int) = ((a &&& b : Nat) : Int) := by
  have h1 : (BitVec.ofInt 64 (a : Int)).toNat = a := by
    rw [BitVec.ofInt_natCast, BitVec.toNat_ofNat]; exact Nat.mod_eq_of_lt (by omega)
  have h2 : (BitVec.ofInt 64 (b : Int)).toNat = b := by
    rw [BitVec.ofInt_natCast, BitVec.toNat_ofNat]; exact Nat.mod_eq_of_lt (by omega)
  have h3 : a &&& b ≤ a := Nat.and_le_left
  show IntKind.i64.wrap ((BitVec.ofInt 64 (a : Int) &&& BitVec.ofInt 64 (b : Int)).toNat : Int) = _
  rw [BitVec.toNat_and, h1, h2]
  rw [IntKind.wrap_i64]
  omega

/-- A power of two up to 16. -/
def Pow (s : Nat) : Prop := s = 1 ∨ s = 2 ∨ s = 4 ∨ s = 8 ∨ s = 16
theorem Pow.bounds {s : Nat} (h : Pow s) : 1 ≤ s ∧ s ≤ 16 := by unfold Pow at h; omega

theorem and_mask {s : Nat} (h : Pow s) {d : Int} (h0 : 0 ≤ d) (h1 : d < 9223372036854775808) : bits .and .i64 d ((s : Int) - 1) = d % s := by
  obtain ⟨n, rfl⟩ := Int.eq_ofNat_of_zero_le h0
  have main : ∀ k : Nat, k ≤ 4 → s = 2 ^ k → bits .and .i64 (n : Int) ((s : Int) - 1) = (n : Int) % (s : Int) := by
    intro k hk e
    have hp : 1 ≤ 2 ^ k := Nat.one_le_two_pow
    have hq : 2 ^ k ≤ 2 ^ 4 := Nat.pow_le_pow_right (by omega) hk
    have e1 : ((s : Int) - 1) = ((2 ^ k - 1 : Nat) : Int) := by omega
    rw [e1, bits_and_i64_nat n (2 ^ k - 1) (by omega) (by omega), Nat.and_two_pow_sub_one_eq_mod, e]
    omega
  rcases h with rfl | rfl | rfl | rfl | rfl
  · exact main 0 (by omega) rfl
  · exact main 1 (by omega) rfl
  · exact main 2 (by omega) rfl
  · exact main 3 (by omega) rfl
  · exact main 4 (by omega) rfl

theorem idx_lt {s : Nat} (h : Pow s) (d : Int) : 0 ≤ d % (s : Int) ∧ d % (s : Int) < s := by
  have := h.bounds
  exact ⟨Int.emod_nonneg _ (by omega), Int.emod_lt_of_pos _ (by omega)⟩

set_option maxHeartbeats 400000 in
set_option maxRecDepth 100000 in
theorem bucket_there (c D s : Nat) (d : Int) (w : World) (hs : Pow s) (hd : 0 ≤ d) (hd2 : d < 4611686018427387904) (c2 : w.cell? ⟨c, 2, none⟩ = some (.int .i64 s)) (c3 : w.cell? ⟨c, 3, none⟩ = some (.slice (some ⟨D, 0, none⟩) s s)) :
    Calls Yba.prog 22 #[.pointer (some ⟨c, 0, none⟩), .int .i64 d] w fun e w' => e = .returned (.pointer (some ⟨D, (d % s).toNat, none⟩)) ∧ Below w.heap.size w w' := by
  have hn := eqNil1
  have ha := and_mask hs hd (by omega)
  obtain ⟨b1, b2⟩ := idx_lt hs d
  obtain ⟨s1, s2⟩ := hs.bounds
  obtain ⟨q, hq⟩ : ∃ q : Nat, d % (s : Int) = q := Int.eq_ofNat_of_zero_le b1
  rw [hq] at ha b1 b2 ⊢
  have b3 : q < s := by omega
  clear hq hs
  go_enter Yba.func22, Yba.ntmps22
  go_wp2
  go_quiet (fail)
  go_wp2
  go_ret
  exact ⟨rfl, below_drewN (Below.refl _ _) _⟩

theorem Yba.info58 : (Yba.prog.info? 58).map (fun i => (i.zero, i.size, i.bytes)) = some (some (.slice none 0 0), 1, 24) := by kernel_rfl

set_option maxHeartbeats 400000 in
set_option maxRecDepth 100000 in
theorem bucket_new (c s : Nat) (d : Int) (w : World) (hs : Pow s) (hd : 0 ≤ d) (hd2 : d < 4611686018427387904) (c2 : w.cell? ⟨c, 2, none⟩ = some (.int .i64 s)) (c3 : w.cell? ⟨c, 3, none⟩ = some (.slice none 0 0)) (f3 : w.frozen? ⟨c, 3, none⟩ = false) :
    Calls Yba.prog 22 #[.pointer (some ⟨c, 0, none⟩), .int .i64 d] w fun e w' => ∃ w1 n, e = .returned (.pointer (some ⟨w.heap.size, (d % s).toNat, none⟩)) ∧ w1.ownsRow w.heap.size 58 1 (.slice (some ⟨w.heap.size, 0, none⟩) s s) s (List.replicate s (.slice none 0 0)) ∧ w.grownBy w1 none ∧
      w' = (w1.setCell ⟨c, 3, none⟩ (.slice (some ⟨w.heap.size, 0, none⟩) s s)).drewN n := by
  have hn := eqNil0
  have ha := and_mask hs hd (by omega)
  obtain ⟨b1, b2⟩ := idx_lt hs d
  obtain ⟨s1, s2⟩ := hs.bounds
  obtain ⟨q, hq⟩ : ∃ q : Nat, d % (s : Int) = q := Int.eq_ofNat_of_zero_le b1
  rw [hq] at ha b1 b2 ⊢
  have b3 : q < s := by omega
  have hcw : c < w.heap.size := World.block_lt_of_cell? w _ c2
  obtain ⟨i0, hi, hz0, hz1, hz2⟩ := info_parts Yba.info58
  clear hq hs
  go_enter Yba.func22, Yba.ntmps22
  go_wp2_with (first
    | (at_make; refine wpList_make_full _ rfl _ _ 61 rfl w.heap.size 58 i0 (.slice none 0 0) 1 Yba.underlying61 hi hz0 hz1 _ _ _ _ s rfl rfl rfl rfl (by rw [hz2]; omega) (by unfold maxLen; omega) (Nat.le_refl _) ?_; intro w1 hown hgrow; have hb1 := (Below.refl w.heap.size w).grown hgrow (Nat.le_refl _) (by simp); have k2 : w1.cell? ⟨c, 2, none⟩ = some (.int .i64 s) := (hb1.cell (by exact hcw)).trans c2; have k3 : w1.cell? ⟨c, 3, none⟩ = some (.slice none 0 0) := (hb1.cell (by exact hcw)).trans c3; have k4 : w1.frozen? ⟨c, 3, none⟩ = false := (hb1.frozen (by exact hcw)).trans f3; clear c2 c3 f3))
  go_quiet (fail)
  go_wp2
  go_ret
  have e : (madeCells (Value.slice none 0 0).cells (s * 1)).toList = List.replicate s (Value.slice none 0 0) := by rw [Nat.mul_one]; exact toList_madeCells_one _ _
  rw [e] at hown
  exact ⟨w1, _, rfl, hown, hgrow, rfl⟩

/-- (*Calendar).bucket. -/
theorem bucket_any (B c : Nat) (own : Nat → Option Nat) (now later : List Item) (today : Int) (s : Nat) (days : Nat → List Item) (inD : Nat) (d : Int) (w : World) (h : CalAt w B c own now later today s days inD) (hs : Pow s) (hd : 0 ≤ d) (hd2 : d < 4611686018427387904) (hB : B ≤ w.heap.size) :
    Calls Yba.prog 22 #[.pointer (some ⟨c, 0, none⟩), .int .i64 d] w fun e w' => ∃ D own', e = .returned (.pointer (some ⟨D, (d % s).toNat, none⟩)) ∧ own' 1 = some D ∧ CalAt w' B c own' now later today s days inD ∧ Step own own' w w' := by
  obtain ⟨hb, hap, h0, hf, nv, lv, dv, e2, e3, c0, c1, c2, c3, c4, c5, o1, o2, hd'⟩ := id h
  rcases hd' with ⟨x1, rfl, x3, x4⟩ | ⟨D, dvs, x1, rfl, x3, x4⟩
  · refine (bucket_new c s d w hs hd hd2 c2 c3 (hf 3)).mono ?_
    rintro e w' ⟨w1, n, rfl, hown, hgrow, rfl⟩
    have hc := hb 0 c h0
    have hb1 : Below w.heap.size w w1 := (Below.refl w.heap.size w).grown hgrow (Nat.le_refl _) (by simp)
    have hlt : w.heap.size < w1.heap.size := (hown.lt _ rfl).2
    obtain ⟨w2, hw2⟩ : ∃ w2, w2 = (w1.setCell ⟨c, 3, none⟩ (.slice (some ⟨w.heap.size, 0, none⟩) s s)).drewN n := ⟨_, rfl⟩
    have hk : Keeps (fun k => k = c) w w2 := by
      have k0 : Keeps (fun k => k = c) w w1 := Keeps.of_below hb1
      rw [hw2]
      exact (k0.setCell rfl _).drewN _
    have cell : ∀ j, j ≠ 3 → w2.cell? ⟨c, j, none⟩ = w.cell? ⟨c, j, none⟩ := fun j hj => by
      rw [hw2]
      show (w1.setCell ⟨c, 3, none⟩ _).cell? ⟨c, j, none⟩ = _
      rw [cell_set_ne (Or.inr (Ne.symm hj))]
      exact hb1.cell (by exact hc.2)
    have cell3 : w2.cell? ⟨c, 3, none⟩ = some (.slice (some ⟨w.heap.size, 0, none⟩) s s) := by
      rw [hw2]
      exact World.cell?_setCell_same _ _ _ ((hb1.cell (by exact hc.2)).trans c3)
    have froz : ∀ j, w2.frozen? ⟨c, j, none⟩ = false := fun j => by
      rw [hw2]
      show (w1.setCell ⟨c, 3, none⟩ _).frozen? ⟨c, j, none⟩ = _
      rw [World.frozen?_setCell]
      exact (hb1.frozen (by exact hc.2)).trans (hf j)
    have hDc : w.heap.size ≠ c := by omega
    have ringc : ∀ j, j < s → w2.cell? ⟨w.heap.size, j, none⟩ = some (.slice none 0 0) := fun j hj => by
      rw [hw2]
      show (w1.setCell ⟨c, 3, none⟩ _).cell? ⟨w.heap.size, j, none⟩ = _
      rw [cell_set_ne (Or.inl (Ne.symm hDc)), hown.cellAt j (by omega)]
      simp [hj]
    have ringf : ∀ j, w2.frozen? ⟨w.heap.size, j, none⟩ = false := fun j => by
      rw [hw2]
      show (w1.setCell ⟨c, 3, none⟩ _).frozen? ⟨w.heap.size, j, none⟩ = _
      rw [World.frozen?_setCell]
      exact hown.frozenAt j
    have hz2 : w1.heap.size ≤ w2.heap.size := by rw [hw2]; simp [World.drewN]
    rw [← hw2]
    have hS : ∀ i k, i ≠ 0 → own i = some k → ¬ (k = c) := fun i k i0 e ek => i0 (hap i 0 k e (by rw [h0, ek]))
    have hnew : ∀ k, some w.heap.size = some k → own 1 = some k ∨ w.heap.size ≤ k := fun k e => Or.inr (by cases e; exact Nat.le_refl _)
    have hstep : Step own (own1 own 1 (some w.heap.size)) w w2 := by
      refine ⟨hk.mono fun k _ e => ⟨0, by rw [h0, e]⟩, fun i k e => ?_⟩
      by_cases ei : i = 1
      · subst ei
        rw [own1_same] at e
        exact Or.inr (by cases e; exact Nat.le_refl _)
      · rw [own1_other ei] at e
        exact Or.inl ⟨i, e⟩
    refine ⟨w.heap.size, own1 own 1 (some w.heap.size), rfl, own1_same _ _ _, ⟨fun i k e => ?_, apart1 hb hap hnew, by rw [own1_other (by decide)]; exact h0, froz, nv, lv, _, by rw [own1_other (by decide)]; exact e2, by rw [own1_other (by decide)]; exact e3, by rw [cell 0 (by decide)]; exact c0, by rw [cell 1 (by decide)]; exact c1, by rw [cell 2 (by decide)]; exact c2, cell3, by rw [cell 4 (by decide)]; exact c4, by rw [cell 5 (by decide)]; exact c5,
      o1.keep hk (fun k e => hS 2 k (by decide) (by rw [e2]; exact e)), o2.keep hk (fun k e => hS 3 k (by decide) (by rw [e3]; exact e)), Or.inr ⟨w.heap.size, fun _ => .slice none 0 0, own1_same _ _ _, rfl, ringf, fun i hi => ⟨by rw [own1_other (by omega), x4]; rfl, ringc i hi, by rw [x3]; exact Owns.nil _ _⟩⟩⟩, hstep⟩
    by_cases ei : i = 1
    · subst ei
      rw [own1_same] at e
      cases e
      exact ⟨hB, by omega⟩
    · rw [own1_other ei] at e
      exact ⟨(hb i k e).1, Nat.lt_of_lt_of_le (hb i k e).2 hk.size⟩
  · refine (bucket_there c D s d w hs hd hd2 c2 c3).mono ?_
    rintro e w' ⟨rfl, hbl⟩
    exact ⟨D, own, rfl, x1, h.keep (S := fun _ => False) (Keeps.of_below hbl) (fun _ _ _ h => h), Step.below hbl⟩
end Go.Proofs.Ybulklfg
