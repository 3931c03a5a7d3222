import Derived.Test.YbulklfuRows
import Derived.WalkKit
import Derived.WalkSpells
namespace Go.Proofs.Ybulklfu
open Go.RowKit

/-- A slice of entries that came in: the numbers that its elements hold. -/
def IsEnts (w : World) (a : Option Addr) (len : Nat) (C T : Nat → Int) : Prop :=
  (∀ i, i < len → 0 ≤ C i ∧ C i ≤ 255) ∧
  (len = 0 ∨ ∃ b off, a = some ⟨b, off, none⟩ ∧ b < w.heap.size ∧ ∀ i, i < len → w.cell? ⟨b, off + i * 2, none⟩ = some (.int .u8 (C i)) ∧ w.cell? ⟨b, off + i * 2 + 1, none⟩ = some (.int .u64 (T i)))

theorem Yba.info21 : (Yba.prog.info? 21).map (fun i => (i.zero, i.size, i.bytes)) = some (some (.int .i32 0), 1, 4) := by kernel_rfl
theorem Yba.info31 : (Yba.prog.info? 31).map (fun i => (i.zero, i.size, i.bytes)) = some (some (.int .u64 0), 1, 8) := by kernel_rfl

theorem hide {p : Prop} (h : p) : Hid p := h

theorem one_at {w : World} {ad : Addr} {v : Value} (h : w.cell? ad = some v) : ∀ j u, [v][j]? = some u → w.cell? (ad.add j) = some u := by
  intro j u hj
  match j, hj with
  | 0, hj => simp at hj; subst hj; simpa [Addr.add] using h

/-- The row of a function's first n values. -/
def tab (k : IntKind) (f : Nat → Int) (n : Nat) : List Value := (List.range n).map fun i => .int k (f i)
theorem tab_snoc (k : IntKind) (f : Nat → Int) (n : Nat) : tab k f (n + 1) = tab k f n ++ [.int k (f n)] := by simp [tab, List.range_succ]
theorem tab_length (k : IntKind) (f : Nat → Int) (n : Nat) : (tab k f n).length = n := by simp [tab]
theorem tab_get (k : IntKind) (f : Nat → Int) (n j : Nat) (h : j < n) : (tab k f n)[j]? = some (.int k (f j)) := by simp [tab, h]

set_option maxHeartbeats 400000 in
set_option maxRecDepth 100000 in
theorem split_any (a : Option Addr) (len cap : Nat) (C T : Nat → Int) (m : Nat) (w : World) (h0 : IsEnts w a len C T) (hl : len ≤ 1024) (hm1 : 1 ≤ m) (hm2 : m ≤ 16) :
    Calls Yba.prog 7 #[.slice a len cap, .int .i64 m] w fun e w' => ∃ g1 g2, e = .returned (.tuple #[.slice (some ⟨g1, 0, none⟩) len len, .slice (some ⟨g2, 0, none⟩) len len]) ∧ g1 < g2 ∧
      w'.ownsRow w.heap.size 21 1 (.slice (some ⟨g1, 0, none⟩) len len) len (tab .i32 (fun i => C i % m) len) ∧ w'.ownsRow w.heap.size 31 1 (.slice (some ⟨g2, 0, none⟩) len len) len (tab .u64 T len) ∧ Below w.heap.size w w' := by
  obtain ⟨i0, hi, hz0, hz1, hz2⟩ := info_parts Yba.info21
  obtain ⟨j0, hj, hy0, hy1, hy2⟩ := info_parts Yba.info31
  obtain ⟨hC, hcell⟩ := h0
  go_enter Yba.func7, Yba.ntmps7
  go_wp2_with (first
    | (at_make; refine wpList_make_own _ rfl _ _ 24 rfl w.heap.size 21 i0 (.int .i32 0) 1 Yba.underlying24 hi hz0 hz1 _ _ _ len rfl rfl rfl (by rw [hz2]; omega) (by unfold maxLen; omega) (Nat.le_refl _) ?_; intro w1 hown1 hgrow1; have hb1 := (Below.refl w.heap.size w).grown hgrow1 (Nat.le_refl _) (by simp))
    | (at_make; refine wpList_make_own _ rfl _ _ 23 rfl w.heap.size 31 j0 (.int .u64 0) 1 Yba.underlying23 hj hy0 hy1 _ _ _ len rfl rfl rfl (by rw [hy2]; omega) (by unfold maxLen; omega) hb1.size ?_; intro w2 hown2 hgrow2))
  have hlt1 : w.heap.size < w1.heap.size := (hown1.lt _ rfl).2
  have hb2 : Below w.heap.size w w2 := hb1.grown hgrow2 hb1.size (by simp)
  have hown1' := hown1.kept hgrow2 (Or.inr (by simp [Value.ownBlock]))
  obtain ⟨g2, hg2⟩ : ∃ g2, g2 = w1.heap.size := ⟨_, rfl⟩
  rw [← hg2] at hown2 hlt1
  simp only [← hg2]
  clear hown1 hgrow1 hgrow2 hb1 hg2 w1
  go_loopw [6, 7, 18] (fun c t i wr => ∃ k : Nat, k ≤ len ∧ i = .int .i64 k ∧ c = .slice (some ⟨w.heap.size, 0, none⟩) k len ∧ t = .slice (some ⟨g2, 0, none⟩) k len ∧
      wr.ownsRow w.heap.size 21 1 (.slice (some ⟨w.heap.size, 0, none⟩) k len) k (tab .i32 (fun i => C i % m) k) ∧ wr.ownsRow w.heap.size 31 1 (.slice (some ⟨g2, 0, none⟩) k len) k (tab .u64 T k) ∧ Below w.heap.size w wr)
    (fun _ _ i _ => len - (intOf i).toNat)
  case atStart => exact ⟨0, Nat.zero_le _, rfl, rfl, rfl, hown1', hown2, hb2⟩
  case round =>
    obtain ⟨k, hk, rfl, rfl, rfl, ho1, ho2, hbel⟩ := hrel
    clear hown1' hown2 hb2
    by_cases hlt : k < len
    · obtain ⟨b, off, rfl, hbw, hcs⟩ := hcell.resolve_left (by omega)
      obtain ⟨hk1, hk2⟩ := hC k hlt
      have hc0 : wr.cell? ⟨b, off + k * 2, none⟩ = some (.int .u8 (C k)) := (hbel.cell (by exact hbw)).trans (hcs k hlt).1
      have hc1 : wr.cell? ⟨b, off + k * 2 + 1, none⟩ = some (.int .u64 (T k)) := (hbel.cell (by exact hbw)).trans (hcs k hlt).2
      clear hcell hcs hC
      have hbs := hbel.size
      have hr0 : 0 ≤ C k % (m : Int) := Int.emod_nonneg _ (by omega)
      have hr1 : C k % (m : Int) ≤ 15 := by have := Int.emod_lt_of_pos (C k) (b := (m : Int)) (by omega); omega
      have hne : g2 ≠ w.heap.size := by omega
      have hbs1 : w.heap.size < wr.heap.size := (ho1.lt _ rfl).2
      go_wp2_with (first
        | (at_builtin; refine wpList_append_fits _ rfl (.tmp 22) (.tmp 29) 24 rfl w.heap.size 21 i0 1 Yba.underlying24 hi hz1 w.heap.size k len _ rfl ((ho1.alloc _).alloc _) ⟨wr.heap.size + 1, 0, none⟩ 1 1 [.int .i32 (C k % m)] rfl rfl (one_at (by go_simp)) (by simp; rfl) (by omega) ?_; intro w3 ho1' hgr3; have hcv : w3.cell? ⟨wr.heap.size, 1, none⟩ = some (.int .u64 (T k)) := hgr3.cell (by go_simp) (by simp; omega); have ho2' := ((ho2.alloc _).alloc _).kept hgr3 (Or.inr (by simp [Value.ownBlock]; omega)); have hb3 := ((hbel.alloc hbs _).alloc (by simp; omega) _).grown hgr3 (by simp; omega) (by simp))
        | (at_builtin; refine wpList_append_fits _ rfl (.tmp 31) (.tmp 34) 23 rfl w.heap.size 31 j0 1 Yba.underlying23 hj hy1 g2 k len _ rfl (ho2'.alloc _) ⟨w3.heap.size, 0, none⟩ 1 1 [.int .u64 (T k)] rfl rfl (one_at (by go_simp)) (by simp; rfl) (by omega) ?_; intro w4 ho2'' hgr4))
      go_roundw
      case rel =>
        refine ⟨k + 1, by omega, by go_num, rfl, rfl, ?_, ?_, ?_⟩
        · rw [tab_snoc]
          exact (ho1'.alloc _).kept hgr4 (Or.inr (by simp [Value.ownBlock]; omega))
        · rw [tab_snoc]
          exact ho2''
        · exact (hb3.alloc hb3.size _).grown hgr4 (by have := hb3.size; simp; omega) (by simp; omega)
      case measure => simp [intOf]; omega
    · have hkl : k = len := by omega
      subst hkl
      go_wp2
      go_ret2
      exact ⟨_, _, rfl, hlt1, ho1, ho2, hbel⟩
end Go.Proofs.Ybulklfu
