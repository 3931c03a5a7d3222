import Derived.Test.YbulklfuSplit
import Derived.Deep.QuietTactic
import Derived.BigQuiet
import Derived.WalkSmall
namespace Go.Proofs.Ybulklfu
open Go.RowKit
set_option linter.unusedVariables false

/-- f for the first la, then g. -/
def cat (la : Nat) (f g : Nat → Int) (j : Nat) : Int := if j < la then f j else g (j - la)
theorem tab_cat (k : IntKind) (la lb : Nat) (f g : Nat → Int) : tab k f la ++ tab k g lb = tab k (cat la f g) (la + lb) := by
  apply List.ext_getElem?
  intro j
  by_cases h1 : j < la
  · rw [List.getElem?_append_left (by simpa [tab] using h1)]
    rw [tab_get _ _ _ _ h1, tab_get _ _ _ _ (by omega), cat, if_pos h1]
  · rw [List.getElem?_append_right (by simpa [tab] using h1), tab_length]
    by_cases h2 : j < la + lb
    · rw [tab_get _ _ _ _ (by omega), tab_get _ _ _ _ h2, cat, if_neg h1]
    · simp [tab, h2]; omega

/-- The clockRows value at block R, two rows in one block. -/
def IsRows (w : World) (N R la lb : Nat) (cols ctrs : Nat → Int) : Prop :=
  ∃ C T S G1 G2 : Nat, R < N ∧ C < N ∧ T < N ∧ S < N ∧ G1 < N ∧ G2 < N ∧
    w.cell? ⟨R, 0, none⟩ = some (.slice (some ⟨C, 0, none⟩) 1 1) ∧ w.cell? ⟨R, 1, none⟩ = some (.slice (some ⟨T, 0, none⟩) 1 1) ∧ w.cell? ⟨R, 2, none⟩ = some (.slice (some ⟨S, 0, none⟩) 2 2) ∧
    w.cell? ⟨C, 0, none⟩ = some (.slice (some ⟨G1, 0, none⟩) (la + lb) (la + lb)) ∧ w.cell? ⟨T, 0, none⟩ = some (.slice (some ⟨G2, 0, none⟩) (la + lb) (la + lb)) ∧
    w.cell? ⟨S, 0, none⟩ = some (.int .i32 0) ∧ w.cell? ⟨S, 1, none⟩ = some (.int .i32 0) ∧ w.cell? ⟨S, 2, none⟩ = some (.int .i32 la) ∧
    w.cell? ⟨S, 3, none⟩ = some (.int .i32 0) ∧ w.cell? ⟨S, 4, none⟩ = some (.int .i32 la) ∧ w.cell? ⟨S, 5, none⟩ = some (.int .i32 (la + lb)) ∧
    (∀ j, j < la + lb → w.cell? ⟨G1, j, none⟩ = some (.int .i32 (cols j))) ∧ (∀ j, j < la + lb → w.cell? ⟨G2, j, none⟩ = some (.int .u64 (ctrs j)))

theorem IsRows.carry {w w' : World} {N N' R la lb : Nat} {cols ctrs : Nat → Int} (h : IsRows w N R la lb cols ctrs) (hb : Below N w w') (hN : N ≤ N') : IsRows w' N' R la lb cols ctrs := by
  obtain ⟨C, T, S, G1, G2, r0, r1, r2, r3, r4, r5, c0, c1, c2, c3, c4, c5, c6, c7, c8, c9, c10, c11, c12⟩ := h
  refine ⟨C, T, S, G1, G2, by omega, by omega, by omega, by omega, by omega, by omega, ?_, ?_, ?_, ?_, ?_, ?_, ?_, ?_, ?_, ?_, ?_, ?_, ?_⟩
  all_goals first
    | (intro j hj; rw [hb.cell (by simpa using r4)]; exact c11 j hj)
    | (intro j hj; rw [hb.cell (by simpa using r5)]; exact c12 j hj)
    | (rw [hb.cell (by assumption)]; assumption)

/-- A slice that was cut out of a row: nil, or its cells. -/
def IsCut (w : World) (N : Nat) (v : Value) (k : IntKind) (n : Nat) (f : Nat → Int) : Prop :=
  ∃ a cap, v = .slice a n cap ∧ (0 < n → ∃ g off, a = some ⟨g, off, none⟩ ∧ g < N ∧ ∀ j, j < n → w.cell? ⟨g, off + j, none⟩ = some (.int k (f j)))

theorem cat_left {la : Nat} {f g : Nat → Int} {j : Nat} (h : j < la) : cat la f g j = f j := if_pos h
theorem cat_right {la : Nat} {f g : Nat → Int} {j : Nat} : cat la f g (la + j) = g j := by
  unfold cat
  rw [if_neg (by omega)]
  congr 1
  omega

set_option maxHeartbeats 400000 in
set_option maxRecDepth 100000 in
/-- (*clockRows).row, an empty row. -/
theorem row_empty (R ro i n sc S F : Nat) (w : World) (hRw : R < w.heap.size) (hSw : S < w.heap.size) (hi : i < n) (hn : n ≤ 1048576)
    (c2 : w.cell? ⟨R, ro + 2, none⟩ = some (.slice (some ⟨S, 0, none⟩) n sc)) (s0 : w.cell? ⟨S, i * 3, none⟩ = some (.int .i32 0))
    (s1 : w.cell? ⟨S, i * 3 + 1, none⟩ = some (.int .i32 F)) (s2 : w.cell? ⟨S, i * 3 + 2, none⟩ = some (.int .i32 F)) :
    Calls Yba.prog 15 #[.pointer (some ⟨R, ro, none⟩), .int .i64 i] w fun e w' => e = .returned (.tuple #[.slice none 0 0, .slice none 0 0]) ∧ Below w.heap.size w w' := by
  go_enter Yba.func15, Yba.ntmps15
  go_wp2
  go_ret2
  exact ⟨rfl, (Below.refl _ _).alloc (Nat.le_refl _) _⟩

set_option maxHeartbeats 400000 in
set_option maxRecDepth 100000 in
/-- (*clockRows).row, a row that is not empty. -/
theorem row_some (R ro i n sc S F U C T G1 G2 tot cp1 cp2 : Nat) (w : World) (hRw : R < w.heap.size) (hSw : S < w.heap.size) (hCw : C < w.heap.size) (hTw : T < w.heap.size) (hi : i < n) (hn : n ≤ 1048576)
    (c0 : w.cell? ⟨R, ro, none⟩ = some (.slice (some ⟨C, 0, none⟩) 1 1)) (c1 : w.cell? ⟨R, ro + 1, none⟩ = some (.slice (some ⟨T, 0, none⟩) 1 1))
    (c2 : w.cell? ⟨R, ro + 2, none⟩ = some (.slice (some ⟨S, 0, none⟩) n sc)) (s0 : w.cell? ⟨S, i * 3, none⟩ = some (.int .i32 0))
    (s1 : w.cell? ⟨S, i * 3 + 1, none⟩ = some (.int .i32 F)) (s2 : w.cell? ⟨S, i * 3 + 2, none⟩ = some (.int .i32 U))
    (c3 : w.cell? ⟨C, 0, none⟩ = some (.slice (some ⟨G1, 0, none⟩) tot cp1)) (c4 : w.cell? ⟨T, 0, none⟩ = some (.slice (some ⟨G2, 0, none⟩) tot cp2))
    (hFU : F < U) (hU : U ≤ tot) (ht1 : tot ≤ cp1) (ht2 : tot ≤ cp2) (ht : tot ≤ 1048576) (hcp1 : cp1 ≤ maxLen) (hcp2 : cp2 ≤ maxLen) :
    Calls Yba.prog 15 #[.pointer (some ⟨R, ro, none⟩), .int .i64 i] w fun e w' => e = .returned (.tuple #[.slice (some ⟨G1, F, none⟩) (U - F) (cp1 - F), .slice (some ⟨G2, F, none⟩) (U - F) (cp2 - F)]) ∧ Below w.heap.size w w' := by
  have hne : ((F : Int) == (U : Int)) = false := by simp; omega
  have hFi : (F : Int) < (U : Int) := by omega
  unfold maxLen at hcp1 hcp2
  go_enter Yba.func15, Yba.ntmps15
  go_wp2
  go_quiet (fail)
  go_wp2
  go_ret2
  exact ⟨rfl, below_drewN ((Below.refl _ _).alloc (Nat.le_refl _) _) _⟩

/-- Row i of two: n entries, columns f, counters g. -/
def IsRow2 (la lb i n : Nat) (cols ctrs f g : Nat → Int) : Prop :=
  ((i = 0 ∧ n = la ∧ ∀ j, j < n → cols j = f j ∧ ctrs j = g j) ∨ (i = 1 ∧ n = lb ∧ ∀ j, j < n → cols (la + j) = f j ∧ ctrs (la + j) = g j))

theorem row_at (R la lb i n : Nat) (cols ctrs f g : Nat → Int) (w : World) (N : Nat) (hN : N ≤ w.heap.size) (hla : la ≤ 1024) (hlb : lb ≤ 1024) (h : IsRows w N R la lb cols ctrs) (hs : IsRow2 la lb i n cols ctrs f g) :
    Calls Yba.prog 15 #[.pointer (some ⟨R, 0, none⟩), .int .i64 i] w fun e w' => ∃ v1 v2, e = .returned (.tuple #[v1, v2]) ∧ IsCut w N v1 .i32 n f ∧ IsCut w N v2 .u64 n g ∧ Below w.heap.size w w' := by
  obtain ⟨C, T, S, G1, G2, r0, r1, r2, r3, r4, r5, c0, c1, c2, c3, c4, c5, c6, c7, c8, c9, c10, c11, c12⟩ := h
  obtain ⟨F, hF⟩ : ∃ F, F = if i = 0 then 0 else la := ⟨_, rfl⟩
  have hs0 : F + n ≤ la + lb ∧ i < 2 ∧ w.cell? ⟨S, i * 3, none⟩ = some (.int .i32 0) ∧ w.cell? ⟨S, i * 3 + 1, none⟩ = some (.int .i32 F) ∧ w.cell? ⟨S, i * 3 + 2, none⟩ = some (.int .i32 (F + n : Nat)) ∧ ∀ j, j < n → cols (F + j) = f j ∧ ctrs (F + j) = g j := by
    rcases hs with ⟨rfl, rfl, hj⟩ | ⟨rfl, rfl, hj⟩
    · simp at hF
      subst hF
      exact ⟨by omega, by omega, c5, by simpa using c6, by simpa using c7, by simpa using hj⟩
    · simp at hF
      subst hF
      exact ⟨by omega, by omega, c8, c9, by simpa using c10, hj⟩
  obtain ⟨hFU, hi, s0, s1, s2, hj⟩ := hs0
  by_cases hz : n = 0
  · subst hz
    refine (row_empty R 0 i 2 2 S F w (by omega) (by omega) (by omega) (by omega) c2 s0 s1 s2).mono ?_
    rintro e w' ⟨rfl, hb⟩
    exact ⟨_, _, rfl, ⟨none, 0, rfl, fun h => absurd h (by omega)⟩, ⟨none, 0, rfl, fun h => absurd h (by omega)⟩, hb⟩
  · refine (row_some R 0 i 2 2 S F (F + n) C T G1 G2 (la + lb) (la + lb) (la + lb) w (by omega) (by omega) (by omega) (by omega) (by omega) (by omega) c0 c1 c2 s0 s1 s2 c3 c4 (by omega) (by omega) (by omega) (by omega) (by omega) (by unfold maxLen; omega) (by unfold maxLen; omega)).mono ?_
    rintro e w' ⟨rfl, hb⟩
    have e0 : F + n - F = n := by omega
    rw [e0]
    exact ⟨_, _, rfl, ⟨_, _, rfl, fun _ => ⟨G1, F, rfl, r4, fun j hjn => by rw [← (hj j hjn).1]; exact c11 (F + j) (by omega)⟩⟩, ⟨_, _, rfl, fun _ => ⟨G2, F, rfl, r5, fun j hjn => by rw [← (hj j hjn).2]; exact c12 (F + j) (by omega)⟩⟩, hb⟩

/-- Every entry is at most the laid counter of its column. -/
def leAll (n : Nat) (f g laid : Nat → Int) : Bool := decide (∀ j, j < n → g j ≤ laid (f j).toNat)

theorem ret_bool {a b : Bool} (h : a = b) : Ending.returned (.bool a) = .returned (.bool b) := by rw [h]
theorem leAll_no {n k : Nat} {f g laid : Nat → Int} {c : Nat} (hk : k < n) (hc : f k = c) (h : laid c < g k) : leAll n f g laid = false := by
  refine decide_eq_false fun hall => ?_
  have := hall k hk
  rw [hc, Int.toNat_natCast] at this
  omega
theorem leAll_yes {n : Nat} {f g laid : Nat → Int} (h : ∀ j, j < n → g j ≤ laid (f j).toNat) : leAll n f g laid = true := decide_eq_true h
theorem le_snoc {k : Nat} {f g laid : Nat → Int} {c : Nat} (h : ∀ j, j < k → g j ≤ laid (f j).toNat) (hc : f k = c) (hk : g k ≤ laid c) : ∀ j, j < k + 1 → g j ≤ laid (f j).toNat := by
  intro j hj
  by_cases e : j = k
  · subst e; rw [hc, Int.toNat_natCast]; exact hk
  · exact h j (by omega)

/-- The laidClock at block L. -/
def IsLaid (w : World) (N L R H m : Nat) (laid : Nat → Int) : Prop :=
  L < N ∧ H < N ∧ w.cell? ⟨L, 0, none⟩ = some (.pointer (some ⟨R, 0, none⟩)) ∧ w.cell? ⟨L, 1, none⟩ = some (.slice (some ⟨H, 0, none⟩) m m) ∧ ∀ j, j < m → w.cell? ⟨H, j, none⟩ = some (.int .u64 (laid j))

theorem IsLaid.carry {w w' : World} {N L R H m : Nat} {laid : Nat → Int} (h : IsLaid w N L R H m laid) (hb : Below N w w') : IsLaid w' N L R H m laid := by
  obtain ⟨a, b, c, d, e⟩ := h
  exact ⟨a, b, by rw [hb.cell (by simpa using a)]; exact c, by rw [hb.cell (by simpa using a)]; exact d, fun j hj => by rw [hb.cell (by simpa using b)]; exact e j hj⟩

theorem IsCut.carry {w w' : World} {N : Nat} {v : Value} {k : IntKind} {n : Nat} {f : Nat → Int} (h : IsCut w N v k n f) (hb : Below N w w') : IsCut w' N v k n f := by
  obtain ⟨a, cap, hv, h⟩ := h
  refine ⟨a, cap, hv, fun h0 => ?_⟩
  obtain ⟨g, off, ha, hg, hc⟩ := h h0
  exact ⟨g, off, ha, hg, fun j hj => by rw [hb.cell (by simpa using hg)]; exact hc j hj⟩

set_option maxHeartbeats 1000000 in
set_option maxRecDepth 100000 in
theorem atMost_any (L R H m la lb i n : Nat) (cols ctrs f g laid : Nat → Int) (w : World) (N : Nat) (hN : N ≤ w.heap.size) (hla : la ≤ 1024) (hlb : lb ≤ 1024) (hm : m ≤ 16) (h : IsRows w N R la lb cols ctrs) (hl : IsLaid w N L R H m laid)
    (hs : IsRow2 la lb i n cols ctrs f g) (hcol : ∀ j, j < n → 0 ≤ f j ∧ f j < m) :
    Calls Yba.prog 10 #[.pointer (some ⟨L, 0, none⟩), .int .i64 i] w fun e w' => e = .returned (.bool (leAll n f g laid)) ∧ Below w.heap.size w w' := by
  have hnb : n ≤ 1024 := by rcases hs with h | h <;> omega
  obtain ⟨l0, l1, l2, l3, l4⟩ := id hl
  go_enter Yba.func10, Yba.ntmps10
  go_wp2_with fail
  refine (row_at R la lb i n cols ctrs f g w N hN hla hlb h hs).mono ?_
  rintro e w1 ⟨v1, v2, rfl, hv1, hv2, hb⟩
  have hl1 := hl.carry (hb.mono hN)
  have hc1 := hv1.carry (hb.mono hN)
  have hc2 := hv2.carry (hb.mono hN)
  have hN1 : N ≤ w1.heap.size := Nat.le_trans hN hb.size
  clear hl hv1 hv2 h hs l2 l3 l4
  obtain ⟨a1, p1, rfl, hd1⟩ := hc1
  obtain ⟨a2, p2, rfl, hd2⟩ := hc2
  go_wp2
  go_loopw [20] (fun i wr => ∃ k : Nat, k ≤ n ∧ i = .int .i64 k ∧ (∀ j, j < k → g j ≤ laid (f j).toNat) ∧ Below w1.heap.size w1 wr) (fun i _ => n - (intOf i).toNat)
  case atStart => exact ⟨0, Nat.zero_le _, rfl, fun j hj => absurd hj (by omega), Below.refl _ _⟩
  case round =>
    obtain ⟨k, hk, rfl, hle, hbr⟩ := hrel
    by_cases hlt : k < n
    · obtain ⟨g1, o1, rfl, hg1, hx1⟩ := hd1 (by omega)
      obtain ⟨g2, o2, rfl, hg2, hx2⟩ := hd2 (by omega)
      obtain ⟨_, _, _, l3, l4⟩ := hl1.carry (hbr.mono hN1)
      have hck := hcol k hlt
      obtain ⟨c, hc⟩ := Int.eq_ofNat_of_zero_le hck.1
      have x1 : wr.cell? ⟨g1, o1 + k, none⟩ = some (.int .i32 c) := by rw [hbr.cell (by simp; omega), hx1 k hlt, hc]
      have x2 : wr.cell? ⟨g2, o2 + k, none⟩ = some (.int .u64 (g k)) := by rw [hbr.cell (by simp; omega), hx2 k hlt]
      have x3 : wr.cell? ⟨H, c, none⟩ = some (.int .u64 (laid c)) := l4 c (by omega)
      have hcm : c < m := by omega
      have HC := hide hc
      have HL := hide hle
      clear l4 hx1 hx2 hd1 hd2 hl1 hc hcol hck hle
      by_cases hgt : laid c < g k
      · go_wp2
        go_quiet (fail)
        go_wp2
        go_ret
        exact ⟨ret_bool (leAll_no hlt HC.out hgt).symm, below_drewN (hb.trans (hbr.mono hb.size)) _⟩
      · go_wp2
        go_quiet (fail)
        go_wp2
        go_roundw
        case rel => exact ⟨k + 1, by omega, by go_num, le_snoc HL.out HC.out (by omega), below_drewN hbr _⟩
        case measure => simp [intOf]; omega
    · obtain rfl : k = n := by omega
      go_wp2
      go_ret
      exact ⟨ret_bool (leAll_yes hle).symm, hb.trans (hbr.mono hb.size)⟩
end Go.Proofs.Ybulklfu
