import Derived.Test.YbulklfgState
namespace Go.Proofs.Ybulklfg
open Go.RowKit
set_option linter.unusedVariables false
attribute [local go_sem] Yba.mLess Yba.mTime

/-- The model's removal, in memory. -/
theorem StW.cut {B c s : Nat} {w : World} {i g m capv k : Nat} {last : Int} {own : Nat → Option Nat} {now later : List Item} {today : Int} {days : Nat → List Item} {inD : Nat} {ml : List Item} {wb : World} (h : StW B c s w i (.slice (some ⟨g, 0, none⟩) (m + 1) capv) last own now later today days inD ml wb) (hm : ml.length = m + 1) (hk : k < ml.length) (hB : B ≤ wb.heap.size) (o : Obj) :
    CalAt (((wb.setCell ⟨g, k * 2, none⟩ (.int .i64 (itemAt ml m).1)).setCell ⟨g, k * 2 + 1, none⟩ (.int .i64 (itemAt ml m).2)).alloc o) B c own now later today s days inD ∧
    Owns (((wb.setCell ⟨g, k * 2, none⟩ (.int .i64 (itemAt ml m).1)).setCell ⟨g, k * 2 + 1, none⟩ (.int .i64 (itemAt ml m).2)).alloc o) B (.slice (some ⟨g, 0, none⟩) m capv) (cutAt ml k) ∧
    Below B w (((wb.setCell ⟨g, k * 2, none⟩ (.int .i64 (itemAt ml m).1)).setCell ⟨g, k * 2 + 1, none⟩ (.int .i64 (itemAt ml m).2)).alloc o) ∧ ¬ Foot own g ∧ ¬ Foot own wb.heap.size := by
  have hg : ¬ Foot own g := h.apart g rfl
  have hgB : B ≤ g := (h.owns.lt g rfl).1
  have hkp : Keeps (fun k => k = g) wb (((wb.setCell ⟨g, k * 2, none⟩ (.int .i64 (itemAt ml m).1)).setCell ⟨g, k * 2 + 1, none⟩ (.int .i64 (itemAt ml m).2)).alloc o) :=
    (Keeps.setCell (S := fun k => k = g) (p := ⟨g, k * 2 + 1, none⟩) (Keeps.setCell (S := fun k => k = g) (p := ⟨g, k * 2, none⟩) (Keeps.refl _ _) rfl _) rfl _).alloc _
  refine ⟨h.cal.keep hkp (fun j k e hs => hg ⟨j, by rw [e, hs]⟩), ?_, h.bel.trans (hkp.below hB (fun k _ e => by rw [e]; exact hgB)), hg, fun ⟨j, hj⟩ => by have := (h.cal.1 j _ hj).2; omega⟩
  have h1 := (h.owns.store hm.symm hk (itemAt ml m)).shorter (by simp [hm]) (k := m) (by omega)
  have e : cutAt ml k = (ml.set k (itemAt ml m)).take m := by unfold cutAt; rw [hm]; rfl
  rw [e]
  exact h1.alloc o

theorem tmod50 (z : Int) : -49 ≤ z.tmod 50 ∧ z.tmod 50 ≤ 49 := by
  rcases Int.lt_or_le z 0 with h | h
  · have e : z.tmod 50 = -((-z) % 50) := by rw [← Int.tmod_eq_emod_of_nonneg (by omega), Int.neg_tmod, Int.neg_neg]
    rw [e]
    omega
  · rw [Int.tmod_eq_emod_of_nonneg h]
    omega

set_option maxHeartbeats 4000000 in
set_option maxRecDepth 100000 in
theorem law_walk (r : Int) (a : Option Addr) (n cap : Nat) (O A : Nat → Int) (w : World) (hr : 0 ≤ r ∧ r ≤ 255) (h : IsOps w a n O A) (hn : n ≤ 1024) :
    Calls Yba.prog 5 #[.int .u8 r, .slice a n cap] w fun e w' => e = .returned (.bool true) ∧ Below w.heap.size w w' := by
  obtain ⟨hr1, hr2⟩ := hr
  have H := hide h
  clear h
  go_enter Yba.func5, Yba.ntmps5
  have e9 : (r % 16 * 1000000).tdiv 1000000 = r % 16 := Int.mul_tdiv_cancel _ (by decide)
  have e9a : 0 ≤ (r % 16 * 1000000).tdiv 1000000 := by rw [e9]; omega
  have e9b : (r % 16 * 1000000).tdiv 1000000 ≤ 15 := by rw [e9]; omega
  clear e9
  go_wp2_with fail
  refine (new_any _ w e9a e9b).mono ?_
  rintro e w1 ⟨s, hs, rfl, hbel1⟩
  clear e9a e9b
  go_wp2_with fail
  obtain ⟨w2, hw2⟩ : ∃ w2, w2 = w1.alloc (.cells #[.slice none 0 0, .int .i64 0, .int .i64 s, .slice none 0 0, .int .i64 0, .slice none 0 0] 63) := ⟨_, rfl⟩
  have hcal0 : CalAt w2 w.heap.size w1.heap.size (own0 w1.heap.size) [] [] 0 s (fun _ => []) 0 := by
    rw [hw2]
    exact cal_start hbel1.size (by simp) (fun j => by simp [go_sem]) (by go_simp) (by go_simp) (by go_simp) (by go_simp) (by go_simp) (by go_simp)
  have hbel2 : Below w.heap.size w w2 := by rw [hw2]; exact hbel1.alloc hbel1.size _
  have hst0 : St w.heap.size w1.heap.size s w 0 (.slice none 0 0) 0 w2 := st_start hcal0 hbel2
  obtain ⟨c, hc⟩ : ∃ c, c = w1.heap.size := ⟨_, rfl⟩
  rw [← hw2]
  rw [← hc] at hst0 ⊢
  clear hw2 hcal0 hbel2 hc hbel1
  obtain ⟨B, hB⟩ : ∃ B, B = w.heap.size := ⟨_, rfl⟩
  rw [← hB] at hst0
  have HB := hide hB
  clear hB
  go_loopw [6, 7, 8, 30] (fun v l p x wr => ∃ (i : Nat) (last : Int) (popped : Bool), i ≤ n ∧ l = .int .i64 last ∧ p = .bool popped ∧ x = .int .i64 i ∧ St B c s w i v last wr) (fun v l p x _ => n - (intOf x).toNat)
  case atStart => exact ⟨0, 0, false, Nat.zero_le _, rfl, rfl, rfl, hst0⟩
  case round =>
    clear hst0
    obtain ⟨i, last, popped, hin, rfl, rfl, rfl, hst⟩ := hrel
    by_cases hlt : i < n
    · obtain ⟨own, now, later, today, days, inD, ml, hst⟩ := hst
      have hBr : B ≤ wr.heap.size := by rw [HB.out]; exact hst.bel.size
      obtain ⟨hO, hA0 | ⟨b, o, ha, hbw, hcell⟩⟩ := H.out
      · omega
      · subst ha
        obtain ⟨q1, q2, q3, q4⟩ := hO i hlt
        obtain ⟨x0, x1⟩ := hcell i hlt
        have hbB : b < B := by rw [HB.out]; exact hbw
        rw [← hst.bel.cell (by exact hbB)] at x0 x1
        have hbr : b < wr.heap.size := by omega
        obtain ⟨Oi, hOi⟩ : ∃ z, z = O i := ⟨_, rfl⟩
        obtain ⟨Ai, hAi⟩ : ∃ z, z = A i := ⟨_, rfl⟩
        rw [← hOi] at x0 q1 q2
        rw [← hAi] at x1 q3 q4
        clear hO hcell hOi hAi hbw hbB
        obtain ⟨av, capv, rfl, hcm, hgv⟩ := hst.owns.form
        have b1 : (i : Int) < (n : Int) := by omega
        have hlen := hst.len
        by_cases hop : Oi % 3 = 2
        · have HOP := hide hop
          have hop1 : (Oi % 3 == 2) = true := by simpa using hop
          by_cases hm : ml.length = 0
          · have hm1 : ((ml.length : Int) == 0) = true := by simp [List.eq_nil_of_length_eq_zero hm]
            have HM := hide hm
            clear hm hop
            go_wp2_with fail
            exact ⟨⟨i + 1, last, popped, by omega, rfl, rfl, rfl, own, now, later, today, days, inD, ml, (hst.keep ((Below.refl _ wr).alloc (Nat.le_refl _) _) hBr).onward⟩, by simp [intOf]; omega⟩
          · obtain ⟨m, hm'⟩ : ∃ m, ml.length = m + 1 := ⟨ml.length - 1, by omega⟩
            have HM := hide hm'
            obtain ⟨g, rfl⟩ := hgv (by omega)
            have hm1 : ((m : Int) + 1 == 0) = false := by simp; omega
            have hm2 : ¬ ((m : Int) + 1 = 0) := by omega
            have hlm : m + 1 ≤ 1024 := by omega
            rw [hm'] at hst
            rw [hm']
            clear hm hop hm' hgv hlen
            go_wp2_with fail
            obtain ⟨wa, hwa⟩ : ∃ wa, wa = wr.alloc (.cells #[.int .u8 Oi, .int .i32 Ai] 68) := ⟨_, rfl⟩
            have hba : Below wr.heap.size wr wa := by rw [hwa]; exact (Below.refl _ wr).alloc (Nat.le_refl _) _
            have sta := hst.keep hba hBr
            have hBa : B ≤ wa.heap.size := Nat.le_trans hBr hba.size
            rw [← hwa]
            clear hwa
            refine (min_any B g (m + 1) capv ml wa sta.owns HM.out.symm (by omega) (by omega)).mono ?_
            rintro e wb ⟨k, rfl, hk, hmin, hbb⟩
            have stb := sta.keep hbb hBa
            have hBb : B ≤ wb.heap.size := Nat.le_trans hBa hbb.size
            have hkl : k < ml.length := by rw [HM.out]; exact hk
            have y0 := stb.owns.cell0 HM.out.symm hkl
            have y1 := stb.owns.cell1 HM.out.symm hkl
            have z0 := stb.owns.cell0 HM.out.symm (j := m) (by rw [HM.out]; omega)
            have z1 := stb.owns.cell1 HM.out.symm (j := m) (by rw [HM.out]; omega)
            have f0 := stb.owns.unfrozen HM.out.symm (k * 2)
            have f1 := stb.owns.unfrozen HM.out.symm (k * 2 + 1)
            have hgw : g < wb.heap.size := (stb.owns.lt g rfl).2
            have hcp := stb.owns.capOf
            have kb : (k : Int) < (m : Int) + 1 := by omega
            have hgz : g < wb.heap.size + 1 := by omega
            go_wp2_with fail
            obtain ⟨k1, k2, k3, k4, k5⟩ := stb.cut HM.out hkl hBb (.cells #[.int .i64 (itemAt ml k).1, .int .i64 (itemAt ml k).2] 66)
            obtain ⟨w2, hw2⟩ : ∃ w2, w2 = ((wb.setCell ⟨g, k * 2, none⟩ (.int .i64 (itemAt ml m).1)).setCell ⟨g, k * 2 + 1, none⟩ (.int .i64 (itemAt ml m).2)).alloc (.cells #[.int .i64 (itemAt ml k).1, .int .i64 (itemAt ml k).2] 66) := ⟨_, rfl⟩
            have t0 : w2.cell? ⟨wb.heap.size, 0, none⟩ = some (.int .i64 (itemAt ml k).1) := by rw [hw2]; go_simp
            have t1 : w2.cell? ⟨wb.heap.size, 1, none⟩ = some (.int .i64 (itemAt ml k).2) := by rw [hw2]; go_simp
            have t2 : wb.heap.size < w2.heap.size := by rw [hw2]; simp
            rw [← hw2] at k1 k2 k3 ⊢
            clear hw2 y0 y1 z0 z1 f0 f1 hgw hgz
            refine (lawPop (last := last) hs (by omega) (by omega) k1 stb.inv hkl (fun j hj => hmin j (by rw [← HM.out]; exact hj)) k2 k4 stb.len stb.day stb.times k3).mono ?_
            rintro e wd ⟨rfl, hSt, hkp⟩
            have v0 : wd.cell? ⟨wb.heap.size, 0, none⟩ = some (.int .i64 (itemAt ml k).1) := (hkp.cell (by exact t2) k5).trans t0
            have v1 : wd.cell? ⟨wb.heap.size, 1, none⟩ = some (.int .i64 (itemAt ml k).2) := (hkp.cell (by exact t2) k5).trans t1
            have v2 : wb.heap.size < wd.heap.size := Nat.lt_of_lt_of_le t2 hkp.size
            have v3 : wb.heap.size < wd.heap.size + 1 := by omega
            have hBd : B ≤ wd.heap.size := by omega
            clear t0 t1 k1 k2 k3
            go_wp2_with (first | (go_at_call 13; refine (lawLen (hSt.keep ((Below.refl _ wd).alloc (Nat.le_refl _) _) hBd) (by omega)).mono ?_; rintro e we ⟨rfl, hbe⟩))
            go_roundw
            case rel => exact ⟨i + 1, _, true, by omega, rfl, rfl, rfl, ((hSt.keep ((Below.refl _ wd).alloc (Nat.le_refl _) _) hBd).keep hbe (by simp; omega)).onward⟩
            case measure => simp [intOf]; omega
        · have hop1 : (Oi % 3 == 2) = false := by simpa using hop
          have HOP := hide hop
          clear hop
          go_upto_if 68 with fail
          obtain ⟨wa, hwa⟩ : ∃ wa, wa = wr.alloc (.cells #[.int .u8 Oi, .int .i32 Ai] 68) := ⟨_, rfl⟩
          have hba : Below wr.heap.size wr wa := by rw [hwa]; exact (Below.refl _ wr).alloc (Nat.le_refl _) _
          have sta := hst.keep hba hBr
          have hBa : B ≤ wa.heap.size := Nat.le_trans hBr hba.size
          have y1 : wa.cell? ⟨wr.heap.size, 1, none⟩ = some (.int .i32 Ai) := by rw [hwa]; go_simp
          rw [← hwa]
          have l1 := hst.last1
          have l2 := hst.last2
          clear hwa x0 x1
          go_cut [14] (fun x wc => wc = wa ∧ ∃ T : Int, x = .int .i64 T ∧ -50000000 ≤ T ∧ T ≤ 50000000 + 41000000 * ((i : Int) + 1))
          case first =>
            cases popped
            · obtain ⟨tm1, tm2⟩ := tmod50 Ai
              go_wp2_with fail
              go_meet
              case rel => exact ⟨rfl, _, rfl, by omega, by omega⟩
            · go_wp2_with fail
              go_meet
              case rel => exact ⟨rfl, _, rfl, by omega, by omega⟩
          case rest =>
            obtain ⟨hwc, T, rfl, t1, t2⟩ := hcut
            rw [hwc]
            clear hwc
            go_wp2_with fail
            obtain ⟨wv, hwv⟩ : ∃ wv, wv = wa.alloc (.cells #[.int .i64 T, .int .i64 (i : Int)] 66) := ⟨_, rfl⟩
            have hbv : Below wa.heap.size wa wv := by rw [hwv]; exact (Below.refl _ wa).alloc (Nat.le_refl _) _
            have stv := sta.keep hbv hBa
            have hBv : B ≤ wv.heap.size := Nat.le_trans hBa hbv.size
            have p0 : wv.cell? ⟨wa.heap.size, 0, none⟩ = some (.int .i64 T) := by rw [hwv]; go_simp
            have p1 : wv.cell? ⟨wa.heap.size, 1, none⟩ = some (.int .i64 (i : Int)) := by rw [hwv]; go_simp
            have p2 : wa.heap.size < wv.heap.size := by rw [hwv]; simp
            have pn : ¬ Foot own wa.heap.size := fun ⟨j, hj⟩ => by have := (sta.cal.1 j _ hj).2; omega
            rw [← hwv]
            clear hwv
            refine (lawPush T i hs (by omega) hBv stv (by omega) (by omega)).mono ?_
            rintro e wx ⟨rfl, ⟨own', now', later', days', inD', hmid⟩, hkp⟩
            have r0 : wx.cell? ⟨wa.heap.size, 0, none⟩ = some (.int .i64 T) := (hkp.cell (by exact p2) pn).trans p0
            have r1 : wx.cell? ⟨wa.heap.size, 1, none⟩ = some (.int .i64 (i : Int)) := (hkp.cell (by exact p2) pn).trans p1
            have r2 : wa.heap.size < wx.heap.size := Nat.lt_of_lt_of_le p2 hkp.size
            have hBx : B ≤ wx.heap.size := by omega
            clear p0 p1 y1
            go_wp2_with (first
              | (refine wpList_push rfl (.tmp 94) (.tmp 96) rfl B (.slice av ml.length capv) ml rfl (hmid.owns.alloc _) wx.heap.size (T, (i : Int)) rfl (by go_simp) (by go_simp) (by omega) (by simp; omega) ?_; intro g' cap' wy hgr; have hS := Mid.append (hmid.keep ((Below.refl _ wx).alloc (Nat.le_refl _) _) hBx) stv hgr (by simp; omega) t1 t2; have hBy : B ≤ wy.heap.size := (by have h1 := hgr.2.1.size; simp at h1; omega))
              | (go_at_call 13; refine (lawLen hS (by omega)).mono ?_; rintro e we ⟨rfl, hbe⟩))
            go_roundw
            case rel => exact ⟨i + 1, last, popped, by omega, rfl, rfl, rfl, hS.keep hbe hBy⟩
            case measure => simp [intOf]; omega
    · have e : n = i := by omega
      subst e
      obtain ⟨own, now, later, today, days, inD, ml, hst⟩ := hst
      go_wp2_with fail
      go_loopg [6] ml.length (fun k v wr => ∃ last own now later today days inD ml, StW B c s w n v last own now later today days inD ml wr ∧ k = ml.length)
      case atStart => exact ⟨last, own, now, later, today, days, inD, ml, hst, rfl⟩
      case round =>
        clear hst
        obtain ⟨last, own, now, later, today, days, inD, ml, hst, hkk⟩ := hrel
        have HKK := hide hkk
        clear hkk
        have hBr : B ≤ wr.heap.size := by rw [HB.out]; exact hst.bel.size
        obtain ⟨av, capv, rfl, hcm, hgv⟩ := hst.owns.form
        have hlen := hst.len
        by_cases hm : ml.length = 0
        · have hm1 : ¬ ((0 : Int) < (ml.length : Int)) := by omega
          have HM := hide hm
          clear hm
          go_wp2_with fail
          go_ret
          exact ⟨rfl, by rw [← HB.out]; exact hst.bel⟩
        · obtain ⟨m, hm'⟩ : ∃ m, ml.length = m + 1 := ⟨ml.length - 1, by omega⟩
          have HM := hide hm'
          obtain ⟨g, rfl⟩ := hgv (by omega)
          have hm2 : (0 : Int) < (m : Int) + 1 := by omega
          have hlm : m + 1 ≤ 1024 := by omega
          rw [hm'] at hst
          rw [hm']
          clear hm hm' hgv hlen
          go_wp2_with fail
          refine (min_any B g (m + 1) capv ml wr hst.owns HM.out.symm (by omega) (by omega)).mono ?_
          rintro e wb ⟨k, rfl, hk, hmin, hbb⟩
          have stb := hst.keep hbb hBr
          have hBb : B ≤ wb.heap.size := Nat.le_trans hBr hbb.size
          have hkl : k < ml.length := by rw [HM.out]; exact hk
          have y0 := stb.owns.cell0 HM.out.symm hkl
          have y1 := stb.owns.cell1 HM.out.symm hkl
          have z0 := stb.owns.cell0 HM.out.symm (j := m) (by rw [HM.out]; omega)
          have z1 := stb.owns.cell1 HM.out.symm (j := m) (by rw [HM.out]; omega)
          have f0 := stb.owns.unfrozen HM.out.symm (k * 2)
          have f1 := stb.owns.unfrozen HM.out.symm (k * 2 + 1)
          have hgw : g < wb.heap.size := (stb.owns.lt g rfl).2
          have hcp := stb.owns.capOf
          have kb : (k : Int) < (m : Int) + 1 := by omega
          have hgz : g < wb.heap.size + 1 := by omega
          go_wp2_with fail
          obtain ⟨k1, k2, k3, k4, k5⟩ := stb.cut HM.out hkl hBb (.cells #[.int .i64 (itemAt ml k).1, .int .i64 (itemAt ml k).2] 66)
          obtain ⟨w2, hw2⟩ : ∃ w2, w2 = ((wb.setCell ⟨g, k * 2, none⟩ (.int .i64 (itemAt ml m).1)).setCell ⟨g, k * 2 + 1, none⟩ (.int .i64 (itemAt ml m).2)).alloc (.cells #[.int .i64 (itemAt ml k).1, .int .i64 (itemAt ml k).2] 66) := ⟨_, rfl⟩
          have t0 : w2.cell? ⟨wb.heap.size, 0, none⟩ = some (.int .i64 (itemAt ml k).1) := by rw [hw2]; go_simp
          have t1 : w2.cell? ⟨wb.heap.size, 1, none⟩ = some (.int .i64 (itemAt ml k).2) := by rw [hw2]; go_simp
          have t2 : wb.heap.size < w2.heap.size := by rw [hw2]; simp
          rw [← hw2] at k1 k2 k3 ⊢
          clear hw2 y0 y1 z0 z1 f0 f1 hgw hgz
          refine (lawPop (last := last) hs (by omega) (by omega) k1 stb.inv hkl (fun j hj => hmin j (by rw [← HM.out]; exact hj)) k2 k4 stb.len stb.day stb.times k3).mono ?_
          rintro e wd ⟨rfl, hSt, hkp⟩
          have v0 : wd.cell? ⟨wb.heap.size, 0, none⟩ = some (.int .i64 (itemAt ml k).1) := (hkp.cell (by exact t2) k5).trans t0
          have v1 : wd.cell? ⟨wb.heap.size, 1, none⟩ = some (.int .i64 (itemAt ml k).2) := (hkp.cell (by exact t2) k5).trans t1
          have v2 : wb.heap.size < wd.heap.size := Nat.lt_of_lt_of_le t2 hkp.size
          have v3 : wb.heap.size < wd.heap.size + 1 := by omega
          have hBd : B ≤ wd.heap.size := by omega
          clear t0 t1 k1 k2 k3
          go_wp2_with (first | (go_at_call 13; refine (lawLen (hSt.keep ((Below.refl _ wd).alloc (Nat.le_refl _) _) hBd) (by omega)).mono ?_; rintro e we ⟨rfl, hbe⟩))
          have hS2 := (hSt.keep ((Below.refl _ wd).alloc (Nat.le_refl _) _) hBd).keep hbe (by simp; omega)
          obtain ⟨own3, now3, later3, today3, days3, inD3, ml3, st3⟩ := hS2
          obtain ⟨a3, cap3, e3, _, _⟩ := st3.owns.form
          injection e3 with e31 e32 e33
          go_roundg ml3.length
          case measure => rw [HKK.out, HM.out]; omega
          case rel => exact ⟨_, own3, now3, later3, today3, days3, inD3, ml3, st3, rfl⟩
end Go.Proofs.Ybulklfg
