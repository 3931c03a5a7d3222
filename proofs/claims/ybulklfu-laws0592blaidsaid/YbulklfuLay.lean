import Derived.Test.YbulklfuExact
namespace Go.Proofs.Ybulklfu
open Go.RowKit
set_option linter.unusedVariables false

/-- The counters after the first k entries are laid. -/
def layTo (f g laid : Nat → Int) : Nat → Nat → Int
  | 0 => laid
  | k + 1 => fun j => if j = (f k).toNat then g k else layTo f g laid k j

theorem IsLaid.other {w : World} {N L R H m : Nat} {f : Nat → Int} (h : IsLaid w N L R H m f) (hLH : L ≠ H) (v : Value) : IsLaid (w.setCell ⟨L, 2, none⟩ v) N L R H m f := by
  obtain ⟨a, b, l2, l3, l4⟩ := h
  refine ⟨a, b, ?_, ?_, fun j hj => ?_⟩
  · rw [World.cell?_setCell_other _ _ _ _ (by simp)]; exact l2
  · rw [World.cell?_setCell_other _ _ _ _ (by simp)]; exact l3
  · rw [World.cell?_setCell_other _ _ _ _ (by simp)]; exact l4 j hj

theorem lay_snoc {w : World} {N L R H m k c : Nat} {f g laid : Nat → Int} (h : IsLaid w N L R H m (layTo f g laid k)) (hLH : L ≠ H) (hc : f k = c) (hcm : c < m) : IsLaid (w.setCell ⟨H, c, none⟩ (.int .u64 (g k))) N L R H m (layTo f g laid (k + 1)) := by
  refine (h.set hLH hcm (g k)).congr fun j hj => ?_
  simp only [layTo, hc, Int.toNat_natCast]

set_option maxHeartbeats 1000000 in
set_option maxRecDepth 100000 in
theorem lay_any (L R H m la lb i n : Nat) (cols ctrs f g laid : Nat → Int) (w : World) (Nr N : Nat) (hNr : Nr ≤ N) (hN : N ≤ w.heap.size) (hLr : Nr ≤ L) (hHr : Nr ≤ H) (hLH : L ≠ H) (hla : la ≤ 1024) (hlb : lb ≤ 1024) (hm : m ≤ 16) (h : IsRows w Nr R la lb cols ctrs) (hl : IsLaid w N L R H m laid)
    (hs : IsRow2 la lb i n cols ctrs f g) (hcol : ∀ j, j < n → 0 ≤ f j ∧ f j < m) (hnz : w.cell? ⟨L, 2, none⟩ = some (.int .i64 0)) (hfL : ∀ j, w.frozen? ⟨L, j, none⟩ = false) (hfH : ∀ j, w.frozen? ⟨H, j, none⟩ = false) :
    Calls Yba.prog 11 #[.pointer (some ⟨L, 0, none⟩), .int .i64 i] w fun e w' => e = .returned (.tuple #[]) ∧ IsLaid w' N L R H m (layTo f g laid n) ∧ Below Nr w w' ∧ N ≤ w'.heap.size := by
  have hnb : n ≤ 1024 := by rcases hs with h | h <;> omega
  obtain ⟨l0, l1, l2, l3, l4⟩ := id hl
  have HFL := hide hfL
  have HFH := hide hfH
  have HCOL := hide hcol
  clear hfL hfH hcol l4
  go_enter Yba.func11, Yba.ntmps11
  go_wp2_with fail
  refine (row_at R la lb i n cols ctrs f g w Nr (Nat.le_trans hNr hN) hla hlb h hs).mono ?_
  rintro e w1 ⟨v1, v2, rfl, hv1, hv2, hb⟩
  have hl1 := hl.carry (hb.mono hN)
  have hN1 : N ≤ w1.heap.size := Nat.le_trans hN hb.size
  have fL : w1.frozen? ⟨L, 2, none⟩ = false := by rw [hb.frozen (by show L < _; omega)]; exact HFL.out 2
  have cL : w1.cell? ⟨L, 2, none⟩ = some (.int .i64 0) := by rw [hb.cell (by show L < _; omega)]; exact hnz
  have HFL1 : Hid (∀ j, w1.frozen? ⟨L, j, none⟩ = false) := fun j => by rw [hb.frozen (by show L < _; omega)]; exact HFL.out j
  have HFH1 : Hid (∀ j, w1.frozen? ⟨H, j, none⟩ = false) := fun j => by rw [hb.frozen (by show H < _; omega)]; exact HFH.out j
  have hc1 := hv1.carry (hb.mono (Nat.le_trans hNr hN))
  have hc2 := hv2.carry (hb.mono (Nat.le_trans hNr hN))
  have hbN : Below Nr w w1 := hb.mono (Nat.le_trans hNr hN)
  clear hl hv1 hv2 h hs l2 l3 HFL HFH hnz hb
  obtain ⟨a1, p1, rfl, hd1⟩ := hc1
  obtain ⟨a2, p2, rfl, hd2⟩ := hc2
  go_wp2
  clear fL
  have hstart : IsLaid (w1.setCell ⟨L, 2, none⟩ (.int .i64 0)) N L R H m (layTo f g laid 0) := hl1.other hLH _
  have cL0 : (w1.setCell ⟨L, 2, none⟩ (.int .i64 0)).cell? ⟨L, 2, none⟩ = some (.int .i64 0) := World.cell?_setCell_same _ _ _ cL
  go_loopw [22] (fun i wr => ∃ k : Nat, k ≤ n ∧ i = .int .i64 k ∧ IsLaid wr N L R H m (layTo f g laid k) ∧ Below Nr w1 wr ∧ N ≤ wr.heap.size ∧ (∀ j, wr.frozen? ⟨L, j, none⟩ = false) ∧ (∀ j, wr.frozen? ⟨H, j, none⟩ = false) ∧ ∃ z : Int, 0 ≤ z ∧ z ≤ k ∧ wr.cell? ⟨L, 2, none⟩ = some (.int .i64 z)) (fun i _ => n - (intOf i).toNat)
  case atStart => exact ⟨0, Nat.zero_le _, rfl, hstart, (Below.refl _ _).setCell hLr _, by simpa using hN1, fun j => by simpa using HFL1.out j, fun j => by simpa using HFH1.out j, 0, by omega, by omega, cL0⟩
  case round =>
    obtain ⟨k, hk, rfl, hlr, hbr, hsz, hfL, hfH, z, hz0, hz1, hzc⟩ := hrel
    clear hstart cL0 cL hl1 HFL1 HFH1
    by_cases hlt : k < n
    · obtain ⟨g1, o1, rfl, hg1, hx1⟩ := hd1 (by omega)
      obtain ⟨g2, o2, rfl, hg2, hx2⟩ := hd2 (by omega)
      obtain ⟨_, _, l2, l3, l4⟩ := id hlr
      have hck := HCOL.out k hlt
      obtain ⟨c, hc⟩ := Int.eq_ofNat_of_zero_le hck.1
      have hcm : c < m := by omega
      have x1 : wr.cell? ⟨g1, o1 + k, none⟩ = some (.int .i32 c) := by rw [hbr.cell (by exact hg1), hx1 k hlt, hc]
      have x2 : wr.cell? ⟨g2, o2 + k, none⟩ = some (.int .u64 (g k)) := by rw [hbr.cell (by exact hg2), hx2 k hlt]
      have x3 := l4 c hcm
      have y1 := hfH c
      have y2 := hfL 2
      have hn1 : g1 ≠ H := by omega
      have hn2 : g2 ≠ H := by omega
      have hn3 : g2 ≠ L := by omega
      have HC := hide hc
      have HL := hide hfL
      have HH := hide hfH
      clear l4 l2 hx1 hx2 hd1 hd2 hc hck hfL hfH
      by_cases hgz : g k = 0
      · have hb0 : (g k != 0) = false := by simp [hgz]
        have HG := hide hgz
        clear hgz
        go_wp2
        go_region
        go_wp2
        go_roundw
        case rel => exact ⟨k + 1, by omega, by go_num, lay_snoc hlr hLH HC.out hcm, (hbr.setCell hHr _).drew, by simpa using hsz, fun j => by simpa using HL.out j, fun j => by simpa using HH.out j, z, hz0, by omega, by rw [← hzc]; exact World.cell?_setCell_other _ _ _ _ (by simp)⟩
        case measure => simp [intOf]; omega
      · have hb0 : (g k != 0) = true := by simp [hgz]
        clear hgz
        go_wp2
        go_region
        go_wp2
        go_roundw
        case rel => exact ⟨k + 1, by omega, by go_num, (lay_snoc hlr hLH HC.out hcm).other hLH _, ((hbr.setCell hHr _).setCell hLr _).drew, by simpa using hsz, fun j => by simpa using HL.out j, fun j => by simpa using HH.out j, z + 1, by omega, by omega, World.cell?_setCell_same (u := .int .i64 z) _ _ _ (by rw [← hzc]; exact World.cell?_setCell_other _ _ _ _ (by simp))⟩
        case measure => simp [intOf]; omega
    · obtain rfl : n = k := by omega
      go_wp2
      go_end0
      exact ⟨rfl, hlr, hbN.trans hbr, hsz⟩
end Go.Proofs.Ybulklfu
