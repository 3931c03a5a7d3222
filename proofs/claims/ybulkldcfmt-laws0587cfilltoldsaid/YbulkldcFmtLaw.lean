/-
  group.LawS0587CFill.
-/
import Derived.Test.YbulkldcFmtFill
import Derived.Test.YbulkldcFmtSign
namespace Go.Proofs.YbulkldcFmt
open Go.RowKit Go.Extern.Stop Go.Stop Go.Extern
set_option linter.unusedVariables false

/-- A slice of bytes that came in. -/
def Bytes (w : World) (a : Option Addr) (m : Nat) (Z : Nat → Nat) : Prop := (∀ i, i < m → Z i < 256) ∧ (m = 0 ∨ ∃ b o, a = some ⟨b, o, none⟩ ∧ b < w.heap.size ∧ ∀ i, i < m → w.cell? ⟨b, o + i, none⟩ = some (.int .u8 (Z i)))

theorem wpList_mapInsert {w : World} {ops : Array Oper} {rest : List Oper} {o : Oper} {a : Act} {Q : Exit → Act → World → Prop} (hg : o.guard = none) (m x v : Operand) (t : TypeId) (hop : o.op = Op.insert t m x v) (e : TypeId) (ht : Ybaf.prog.underlying t = some (.map 9 e))
    (b n : Nat) (f : ByteArray → Option Value) (s : ByteArray) (val : Value) (hm : a.eval m = .map (some b)) (hx : a.eval x = .string s) (hv : a.eval v = val) (h : MapAt w b n f) (hs : s.size ≤ maxLen) (hf : f s = none) (hn : n < maxLen)
    (hK : ∀ w', MapAt w' b (n + 1) (fput f s val) → w.grownBy w' (some b) → wpList Ybaf.prog ops Q rest (a.put o.dst undef) w') : wpList Ybaf.prog ops Q (o :: rest) a w := by
  refine wpList_plain hg fun K' hK' => ?_
  obtain ⟨w', hrun, r1, r2⟩ := h.store ht hs val hf hn
  unfold Oper.wp
  simp [execOp, hop, hm, hx, hv, hrun, Result.andThen]
  exact hK' _ _ (hK w' r1 r2)

theorem Ybaf.info9 : (Ybaf.prog.info? 9).map (fun i => (i.zero, i.size, i.bytes)) = some (some (.string ⟨#[]⟩), 1, 16) := by kernel_rfl

theorem Ros.drew {w : World} {b o n : Nat} {key : Nat → ByteArray} {m : Option Nat} {f : ByteArray → Option Value} {L V : Nat → Nat} {P : Nat → Prop} (h : Ros w b o n key m f L V P) : Ros w.drew b o n key m f L V P :=
  h.keeps (Keeps.refl (fun _ => False) w).drew (fun _ _ e => e) fun _ _ => rfl
theorem St.drew {W2 wr : World} {G O As Mi k : Nat} {V : Nat → Nat} {i iA iP iM : Nat} {d : Dat} (h : St W2 G O As Mi k V i iA iP iM d wr) : St W2 G O As Mi k V i iA iP iM d wr.drew :=
  { rA := h.rA.drew, rP := h.rP.drew, pA := h.pA, pP := h.pP, v0 := h.v0, v5 := h.v5, vi := h.vi, sl := h.sl, ax := h.ax, af := h.af, mi := h.mi.of_block rfl, fi := h.fi, gf := h.gf, of := h.of, gc := h.gc, oc := h.oc, kp := h.kp.drew }

set_option maxHeartbeats 2000000 in
set_option maxRecDepth 100000 in
theorem cfill_walk (F : Interp) (at0 mx : Int) (lead wl : Bool) (n0 k0 by0 : Nat) (a : Option Addr) (m c : Nat) (Z : Nat → Nat) (w : World) (hF : F.answers w.tape) (hn : n0 < 256) (hk : k0 < 256) (hby : by0 < 256) (hZ : Bytes w a m Z) (hm : m ≤ 1024) (hmx1 : -9223372036854775808 ≤ mx) (hmx2 : mx ≤ 9223372036854775807) :
    Calls Ybaf.prog 5 #[.int .i64 at0, .int .i64 mx, .bool lead, .bool wl, .int .u8 n0, .int .u8 k0, .int .u8 by0, .slice a m c] w fun e w' => e = .returned (.bool true) ∧ Below w.heap.size w w' := by
  have hZ' := hide hZ
  clear hZ
  go_enter Ybaf.func5, Ybaf.ntmps5
  have hmk := @run_makeMap Ybaf.prog
  have hbld : (n0 : Int) < 256 := by omega
  obtain ⟨n, hnn⟩ : ∃ n, n = n0 % 5 := ⟨_, rfl⟩
  obtain ⟨k, hkk⟩ : ∃ k, k = k0 % 6 := ⟨_, rfl⟩
  have hn5 : n ≤ 4 := by omega
  have hk6 : k ≤ 5 := by omega
  have en : (n0 : Int) % 5 = n := by omega
  have ek : (k0 : Int) % 6 = k := by omega
  go_upto_region 6 with fail
  rw [en, ek]
  have hB : by0 % 3 < 3 := by omega
  have eb : (by0 : Int) % 3 = ((by0 % 3 : Nat) : Int) := by omega
  have HMX := hide (And.intro hmx1 hmx2)
  clear hn hk hnn hkk hbld en ek hmx1 hmx2
  go_cut [58] from 54 to 57 (fun x wx => wx = w ∧ x = .bool (wl && decide (0 < (n : Int))))
  case first =>
    cases wl
    · go_wp2_with fail
      go_meet
      exact ⟨rfl, rfl⟩
    · go_wp2_with fail
      go_meet
      exact ⟨rfl, by simp⟩
  case rest =>
  obtain ⟨hw, hq⟩ := hcut
  rw [hw]
  clear hw
  obtain ⟨q, hq'⟩ : ∃ q : Bool, q = (wl && decide (0 < (n : Int))) := ⟨_, rfl⟩
  rw [← hq'] at hq
  rw [hq]
  clear hq
  have HQ := hide hq'
  clear hq' wc
  go_upto_if 58 with fail
  go_cut [19] from 54 to 54 (fun x wx => wx = w ∧ x = .string (if q then ⟨#[119, 48]⟩ else ⟨#[]⟩))
  case first =>
    cases q
    · go_wp2_with fail
      go_meet
      exact ⟨rfl, rfl⟩
    · go_wp2_with fail
      go_meet
      exact ⟨rfl, rfl⟩
  case rest =>
  obtain ⟨hw, hq⟩ := hcut
  rw [hw]
  clear hw
  obtain ⟨ld, hl⟩ : ∃ ld : ByteArray, ld = if q then ⟨#[119, 48]⟩ else ⟨#[]⟩ := ⟨_, rfl⟩
  rw [← hl] at hq
  rw [hq]
  clear hq
  have HL := hide hl
  clear hl wc
  go_upto_block 0 with (refine wpList_mapInsert rfl _ _ _ 41 rfl 4 Ybaf.underlying41 w.heap.size 0 (fun _ => none) kO (.bool true) rfl rfl rfl (mapAt_made w) (by show 2 ≤ maxLen; unfold maxLen; omega) rfl (by unfold maxLen; omega) ?_; intro w1 hmo hg1)
  obtain ⟨W0, hW0⟩ : ∃ W0, W0 = (w1.alloc (.map #[] 0)).alloc (.cells #[.string ⟨#[103]⟩, .string ⟨#[99]⟩, .int .i64 mx, .int .i64 0, .int .i64 0, .int .i64 0, .string ld, .int .i64 0, .int .i64 0, .int .i64 0, .int .i64 0, .int .i64 0, .bool false, .pointer none, .pointer none, .map none, .slice none 0 0, .pointer none, .pointer none, .map none, .pointer none, .pointer none, .map none, .map (some w.heap.size), .map (some w1.heap.size)] 60) := ⟨_, rfl⟩
  rw [← hW0]
  obtain ⟨G, hG⟩ : ∃ G, G = w1.heap.size + 1 := ⟨_, rfl⟩
  rw [← hG]
  have HW0 := hide hW0
  have HG := hide hG
  have hst0 : Stage1 W0 G 0 W0 := by
    subst hW0 hG
    exact ⟨none, fun _ => none, fun _ => 0, fun _ => 0, fun _ => False, ros_empty (by go_simp) (by go_simp) (by go_simp), fun _ h => h.elim, fun _ h => absurd h (by omega), fun h => absurd h (by omega), Keeps.refl _ _, fun _ _ _ _ => rfl, fun j => by go_simp⟩
  have hGW : G < W0.heap.size := by rw [hW0, hG]; simp
  clear hW0 hG
  go_cut [21] from 67 to 83 (fun x wx => Stage1 W0 G n wx)
  case first =>
    go_wp2_with fail
    go_loopw [21] (fun p wr => ∃ i : Nat, i ≤ n ∧ p = .int .i64 i ∧ Stage1 W0 G i wr) (fun p _ => n - (intOf p).toNat)
    case atStart => exact ⟨0, Nat.zero_le _, rfl, hst0⟩
    case round =>
      obtain ⟨i, hi, rfl, hst⟩ := hrel
      by_cases hlt : i < n
      · have b1 : (i : Int) < (n : Int) := by omega
        have HST := hide hst
        clear hst
        have hc1 : ∀ wx, Calls Ybaf.prog 14 #[.int .i64 i] wx fun e w' => e = .returned (.string (wk i)) ∧ ∃ c t, w' = wx.alloc (.cells c t) := fun wx => work_any i (by omega) wx
        have hc2 : ∀ wx, Calls Ybaf.prog 15 #[.int .i64 i] wx fun e w' => e = .returned (.string (rk i)) ∧ ∃ c t, w' = wx.alloc (.cells c t) := fun wx => role_any i (by omega) wx
        have hc3 : ∀ c1 t1 c2 t2 c3 t3, Calls Ybaf.prog 13 #[.pointer (some ⟨G, 13, none⟩), .string (wk i), .pointer (some ⟨wr.heap.size + 1 + 1 + 1, 0, none⟩)] ((((wr.alloc (.cells c1 t1)).alloc (.cells c2 t2)).alloc (.cells c3 t3)).alloc (.cells #[.string (wk i), .string ⟨#[109]⟩, .string (rk i), .int .i64 0, .int .i64 0, .int .i64 0, .int .i64 0, .int .i64 0, .bool false, .int .i64 0, .bool false] 67)).drew fun e w' => e = .returned (.tuple #[]) ∧ Stage1 W0 G (i + 1) w' := fun c1 t1 c2 t2 c3 t3 => stage1_call HST.out (by omega) hGW (((((Keeps.refl _ wr).alloc _).alloc _).alloc _).alloc _).drew (by omega) (by go_simp)
        go_upto_block 1 with fail
        go_cut [] from 72 to 83 (fun wx => Stage1 W0 G (i + 1) wx)
        case first =>
          go_wp2_with fail
          go_region_with (first
            | (go_at_call 14; refine (hc1 _).mono ?_; rintro e w' ⟨rfl, cc, tt, rfl⟩)
            | (go_at_call 15; refine (hc2 _).mono ?_; rintro e w' ⟨rfl, cc2, tt2, rfl⟩)
            | (go_at_call 13; refine (hc3 _ _ _ _ _ _).mono ?_; rintro e w' ⟨rfl, hst2⟩))
          go_wp2_with fail
          go_meet
          exact hst2
        case rest =>
          go_wp2_with fail
          go_roundw
          case rel => exact ⟨i + 1, by omega, rfl, hcut⟩
          case measure => simp [intOf]; omega
      · obtain rfl : i = n := by omega
        have b1 : ¬ (i : Int) < (i : Int) := by omega
        go_wp2_with fail
        go_meet
        exact hst
  case rest =>
  have HS1 := hide hcut
  clear hcut hst0 hmo
  obtain ⟨i0, hi, hz0, hz1, hz2⟩ := info_parts Ybaf.info74
  obtain ⟨w2, rfl⟩ : ∃ w2, w2 = wc := ⟨_, rfl⟩
  go_upto_block 2 with (at_make; refine wpList_make_full _ rfl _ _ 73 rfl _ 74 i0 (.pointer none) 1 Ybaf.underlying73 hi hz0 hz1 _ _ _ _ k rfl rfl rfl rfl (by rw [hz2]; omega) (by unfold maxLen; omega) (Nat.le_refl _) ?_; intro w3 hown hgrow)
  have e0 : (madeCells (Value.pointer none).cells (k * 1)).toList = List.replicate k (Value.pointer none) := by rw [Nat.mul_one]; exact toList_madeCells_one _ _
  obtain ⟨hB, ⟨d0, hst0⟩, hbl, hGo⟩ := base_start hk6 hg1 HW0.out HG.out HS1.out _ e0 _ (by simp) hown hgrow
  clear e0 hown hgrow HW0 HS1 hi hz0 hz1 hz2
  obtain ⟨O, hO⟩ : ∃ O, O = w2.heap.size := ⟨_, rfl⟩
  obtain ⟨As, hAs⟩ : ∃ As, As = w2.heap.size + 1 := ⟨_, rfl⟩
  obtain ⟨Mi, hMi⟩ : ∃ Mi, Mi = w1.heap.size := ⟨_, rfl⟩
  rw [← hAs, ← hO, ← hMi] at hB hst0 hGo
  rw [← hAs, ← hO]
  clear hO hAs hMi HG hg1
  have hAslt := hB.dist.lA
  have HB := hide hB
  have HBL := hide hbl
  have HGO := hide hGo
  clear hB hbl hGo
  go_cut [24, 25] from 93 to 131 (fun p x wx => ∃ V d, St w3 G O As Mi k V k k k k d wx)
  case first =>
    go_wp2_with fail
    go_loopw [24, 25] (fun p x wr => ∃ (i : Nat) (V : Nat → Nat) (d : Dat), i ≤ k ∧ p = .int .i64 i ∧ St w3 G O As Mi k V i i i i d wr) (fun p _ _ => k - (intOf p).toNat)
    case atStart => exact ⟨0, _, _, Nat.zero_le _, rfl, hst0⟩
    case round =>
      clear hst0
      obtain ⟨i, V, d, hik, rfl, hst⟩ := hrel
      by_cases hlt : i < k
      · have b1 : (i : Int) < (k : Int) := by omega
        have hc1 : ∀ wx, Calls Ybaf.prog 16 #[.int .i64 i] wx fun e w' => e = .returned (.string (ak i)) ∧ ∃ c t, w' = wx.alloc (.cells c t) := fun wx => app_any i (by omega) wx
        obtain ⟨u, hau⟩ := hst.ax i hlt
        have haf := hst.af i
        have hAw : As < wr.heap.size := Nat.lt_of_lt_of_le hAslt hst.kp.size
        have HST := hide hst
        clear hst
        go_upto_region 21 with (go_at_call 16; refine (hc1 _).mono ?_; rintro e w' ⟨rfl, cc, tt, rfl⟩)
        have hst := st_laid HB.out.dist HST.out hlt cc tt ⟨#[111, 49]⟩ ⟨#[109]⟩ ⟨#[114]⟩ 1
        obtain ⟨V', hV'⟩ : ∃ V', V' = upd V i (wr.heap.size + 1) := ⟨_, rfl⟩
        rw [← hV'] at hst
        have hvi : wr.heap.size + 1 = V' i := by rw [hV', upd_same]
        rw [hvi] at hst ⊢
        obtain ⟨w4, hw4⟩ : ∃ w4, w4 = ((wr.setCell ⟨As, i, none⟩ (.pointer (some ⟨V' i, 0, none⟩))).alloc (.cells cc tt)).alloc (.cells #[.string (ak i), .string ⟨#[111, 49]⟩, .string ⟨#[109]⟩, .string ⟨#[114]⟩, .int .i64 1, .int .u8 0] 77) := ⟨_, rfl⟩
        rw [← hw4] at hst ⊢
        clear hw4 hvi hV' HST hau haf hAw
        have hc0 := (hst.v5 i (by omega)).2.2
        have hca : ∀ wx, wx = w4.drew → Calls Ybaf.prog 17 #[.pointer (some ⟨G, 20, none⟩), .string (ak i), .pointer (some ⟨V' i, 0, none⟩)] wx fun e w' => e = .returned (.tuple #[]) ∧ ∃ d', St w3 G O As Mi k V' (i + 1) (i + 1) i i d' w' := fun wx e => by rw [e]; exact st_addA HB.out.dist hst.drew (by omega)
        have HST := hide hst
        clear hst
        go_cut [] from 106 to 114 (fun wx => ∃ d', St w3 G O As Mi k V' (i + 1) (i + 1) i i d' wx)
        case first =>
          go_region_with (go_at_call 17; refine (hca _ (by rfl)).mono ?_; rintro e w' ⟨rfl, hst2⟩)
          go_wp2_with fail
          go_meet
          exact hst2
        case rest =>
        obtain ⟨d2, hst2⟩ := hcut
        obtain ⟨w5, rfl⟩ : ∃ w5, w5 = wc := ⟨_, rfl⟩
        clear hc0 hca HST
        have hc0 := (hst2.v5 i (by omega)).2.2
        have hca : ∀ wx, wx = w5.drew → Calls Ybaf.prog 17 #[.pointer (some ⟨O, 5, none⟩), .string (ak i), .pointer (some ⟨V' i, 0, none⟩)] wx fun e w' => e = .returned (.tuple #[]) ∧ ∃ d', St w3 G O As Mi k V' (i + 1) (i + 1) (i + 1) i d' w' := fun wx e => by rw [e]; exact st_addP HB.out.dist hst2.drew (by omega)
        have HST := hide hst2
        clear hst2
        go_upto_region 22 with fail
        go_cut [] from 115 to 123 (fun wx => ∃ d', St w3 G O As Mi k V' (i + 1) (i + 1) (i + 1) i d' wx)
        case first =>
          go_region_with (go_at_call 17; refine (hca _ (by rfl)).mono ?_; rintro e w' ⟨rfl, hst2⟩)
          go_wp2_with fail
          go_meet
          exact hst2
        case rest =>
        obtain ⟨d3, hst3⟩ := hcut
        obtain ⟨w6, rfl⟩ : ∃ w6, w6 = wc := ⟨_, rfl⟩
        clear hc0 hca HST
        have hc0 := (hst3.v5 i (by omega)).2.2
        have hg24 : w6.cell? ⟨G, 24, none⟩ = some (.map (some Mi)) := (hst3.gc 24 (by omega) (by omega) (by omega)).trans HB.out.g24
        obtain ⟨w7, hrun, hm7, hg7⟩ := hst3.drew.mi.store Ybaf.underlying41 (size_ak i) (.bool true) (hst3.fi i (Nat.le_refl _) (by omega)) (by unfold maxLen; omega)
        have hst4 := st_ids HB.out.dist hst3.drew (by omega) hm7 hg7
        have HST := hide hst4
        clear hst3 hst4 hm7 hg7
        go_upto_region 23 with fail
        go_region
        go_wp2_with fail
        go_roundw
        case rel => exact ⟨i + 1, V', _, by omega, rfl, HST.out⟩
        case measure => simp [intOf]; omega
      · obtain rfl : i = k := by omega
        have b1 : ¬ (i : Int) < (i : Int) := by omega
        go_wp2_with fail
        go_meet
        exact ⟨V, d, hst⟩
  case rest =>
  obtain ⟨V, d, hst⟩ := hcut
  obtain ⟨wr, rfl⟩ : ∃ wr, wr = wc := ⟨_, rfl⟩
  clear hst0
  have hadd := add0_18 G 17 O wr kO (by show 2 ≤ maxLen; unfold maxLen; omega) ((hst.gc 17 (by omega) (by omega) (by omega)).trans HB.out.g17) ((hst.gc 18 (by omega) (by omega) (by omega)).trans HB.out.g18) ((hst.gc 19 (by omega) (by omega) (by omega)).trans HB.out.g19) hst.gf
  have HST := hide hst
  clear hst
  go_upto_region 27 with (first
    | (go_at_call 18; refine hadd.mono ?_; rintro e w4 ⟨rfl, hadded⟩; have HAD := hide hadded; clear hadded)
    | (refine wpList_mapInsert rfl _ _ _ 93 rfl _ Ybaf.underlying93 (w4.heap.size + 1 + 1) 0 (fun _ => none) kG (.pointer (some ⟨G, 0, none⟩)) (by rfl) rfl (by rfl) (mapAt_made' (by simp)) (by show 1 ≤ maxLen; unfold maxLen; omega) rfl (by unfold maxLen; omega) ?_; intro w6 hmb hg6))
  obtain ⟨MO, lO, fO, mW, fW, lw, vw, hfull, hb8⟩ := full_start hk6 HB.out HGO.out HBL.out.size HST.out HAD.out hg6 hmb
  obtain ⟨w8, hw8⟩ : ∃ w8, w8 = (w6.alloc (.cells #[.pointer (some ⟨w4.heap.size, 0, none⟩), .slice (some ⟨w4.heap.size + 1, 0, none⟩) 1 1, .map (some (w4.heap.size + 1 + 1)), .int .i64 9223372036854775807] 95)).alloc (.cells #[.string ⟨#[99]⟩, .string ⟨#[114, 48]⟩, .string ⟨#[120]⟩] 96) := ⟨_, rfl⟩
  have har : ∀ j, j < 3 → w8.cell? ⟨w6.heap.size + 1, j, none⟩ = some (.string (bk j)) := fun j hj => by
    have h : j = 0 ∨ j = 1 ∨ j = 2 := by omega
    rw [hw8]
    rcases h with rfl | rfl | rfl
    · go_simp; rfl
    · go_simp; rfl
    · go_simp; rfl
  rw [← hw8] at hfull hb8 ⊢
  obtain ⟨S, hS⟩ : ∃ S, S = w6.heap.size := ⟨_, rfl⟩
  obtain ⟨Ar, hAr⟩ : ∃ Ar, Ar = w6.heap.size + 1 := ⟨_, rfl⟩
  obtain ⟨Lg, hLg⟩ : ∃ Lg, Lg = w4.heap.size := ⟨_, rfl⟩
  obtain ⟨MB, hMB⟩ : ∃ MB, MB = w4.heap.size + 1 + 1 := ⟨_, rfl⟩
  rw [← hAr] at har
  rw [← hS, ← hMB, ← hLg] at hfull
  rw [← hAr, ← hS]
  have HF8 := hide hfull
  have HB8 := hide (HBL.out.trans hb8)
  clear hfull hb8 hw8 hS hAr hLg hMB hg6 hmb HAD HST HBL HGO HB hadd hAslt
  obtain ⟨bi, hbi⟩ : ∃ bi, bi = by0 % 3 := ⟨_, rfl⟩
  rw [← hbi] at eb hB
  clear hbi
  go_cut [28] from 147 to 151 (fun x wx => wx = w8 ∧ x = .string (bk bi))
  case first =>
    have hb := har bi hB
    clear har
    go_wp2_with fail
    go_meet
    exact ⟨rfl, rfl⟩
  case rest =>
  obtain ⟨hw, hx⟩ := hcut
  rw [hw, hx]
  clear hw hx har
  clear wc
  obtain ⟨i9, hi9, hy0, hy1, hy2⟩ := info_parts Ybaf.info9
  obtain ⟨bb, hbb⟩ : ∃ bb, bb = bk bi := ⟨_, rfl⟩
  rw [← hbb]
  have HBB := hide hbb
  clear hbb
  go_upto_block 4 with (at_make; refine wpList_make_full _ rfl _ _ 97 rfl w8.heap.size 9 i9 (.string ⟨#[]⟩) 1 Ybaf.underlying97 hi9 hy0 hy1 _ _ _ _ m rfl rfl rfl rfl (by rw [hy2]; omega) (by unfold maxLen; omega) (Nat.le_refl _) ?_; intro w9 hown hgrow)
  have e9 : (madeCells (Value.string ⟨#[]⟩).cells (m * 1)).toList = List.replicate m (Value.string ⟨#[]⟩) := by rw [Nat.mul_one]; exact toList_madeCells_one _ _
  rw [e9] at hown
  clear e9 hi9 hy0 hy1 hy2
  have hb9 : Below w8.heap.size w8 w9 := (Below.refl _ w8).grown hgrow (Nat.le_refl _) (by simp)
  clear hgrow
  obtain ⟨Ws, hWs⟩ : ∃ Ws, Ws = w8.heap.size := ⟨_, rfl⟩
  rw [← hWs] at hown ⊢
  have HWS := hide hWs
  clear hWs
  go_cut [30, 31] from 157 to 169 (fun x y wx => Below w8.heap.size w8 wx ∧ ∀ j, j < m → wx.cell? ⟨Ws, j, none⟩ = some (.string (ak (Z j % 8))))
  case first =>
    go_wp2_with fail
    go_loopw [157] (fun p wr => ∃ (i : Nat) (xs : List Value), i ≤ m ∧ p = .int .i64 i ∧ xs.length = m ∧ (∀ j, j < i → xs[j]? = some (.string (ak (Z j % 8)))) ∧ wr.ownsRow Ws 9 1 (.slice (some ⟨Ws, 0, none⟩) m m) m xs ∧ Below w8.heap.size w8 wr) (fun p _ => m - (intOf p).toNat)
    case atStart => exact ⟨0, _, Nat.zero_le _, rfl, by simp, fun j hj => absurd hj (by omega), hown, hb9⟩
    case round =>
      clear hown hb9
      obtain ⟨i, xs, him, rfl, hxl, hxs, hrow, hbr⟩ := hrel
      by_cases hlt : i < m
      · obtain ⟨hz1, hz2⟩ := hZ'.out
        rcases hz2 with hz2 | ⟨zb, zo, rfl, hzb, hzc⟩
        · omega
        · have hbw : Below w.heap.size w wr := HB8.out.trans (hbr.mono HB8.out.size)
          have hcell := (hbw.cell (p := ⟨zb, zo + i, none⟩) hzb).trans (hzc i hlt)
          obtain ⟨z, hz⟩ : ∃ z, z = Z i := ⟨_, rfl⟩
          have hz256 := hz1 i hlt
          rw [← hz] at hcell hz256
          have HZ := hide hz
          clear hz hz1 hzc
          obtain ⟨y, hy⟩ : ∃ y, y = z % 8 := ⟨_, rfl⟩
          have e8 : (z : Int) % 8 = (y : Int) := by omega
          have hy8 : y < 8 := by omega
          have HY := hide hy
          clear hy
          have hc1 : ∀ wx, Calls Ybaf.prog 16 #[.int .i64 y] wx fun e w' => e = .returned (.string (ak y)) ∧ ∃ c t, w' = wx.alloc (.cells c t) := fun wx => app_any y hy8 wx
          obtain ⟨hc0, hf0⟩ : (∃ u, wr.cell? ⟨Ws, i, none⟩ = some u) ∧ wr.frozen? ⟨Ws, i, none⟩ = false := ⟨by rw [hrow.cellAt i (by omega)]; exact ⟨_, List.getElem?_eq_getElem (by omega)⟩, hrow.frozenAt i⟩
          obtain ⟨u, hc0⟩ := hc0
          have hWlt : Ws < wr.heap.size := (hrow.lt _ rfl).2
          have b1 : (i : Int) < (m : Int) := by omega
          go_wp2_with (go_at_call 16; refine (hc1 _).mono ?_; rintro e w' ⟨rfl, cc, tt, rfl⟩)
          refine ⟨⟨i + 1, _, by omega, rfl, ?_, fun j hj => ?_, ((World.ownsRow.stored hrow i (.string (ak y))).1).alloc _, (hbr.setCell (p := ⟨Ws, i, none⟩) (by rw [HWS.out]; exact Nat.le_refl _) _).alloc (by simpa using hbr.size) _⟩, ?_⟩
          · simpa using hxl
          · by_cases e : j = i
            · subst e
              rw [List.getElem?_set_self (by omega), HY.out, HZ.out]
            · rw [List.getElem?_set_ne (fun h => e h.symm)]
              exact hxs j (by omega)
          · simp [intOf]; omega
      · obtain rfl : i = m := by omega
        have b1 : ¬ (i : Int) < (i : Int) := by omega
        go_wp2_with fail
        go_meet
        exact ⟨hbr, fun j hj => (hrow.cellAt j (by omega)).trans (hxs j hj)⟩
  case rest =>
  obtain ⟨wv, rfl⟩ : ∃ wv, wv = wc := ⟨_, rfl⟩
  clear hown hb9
  obtain ⟨hbv, hwsv⟩ := hcut
  have HBV := hide hbv
  have HWV := hide hwsv
  clear hbv hwsv
  obtain ⟨sb, hsb⟩ : ∃ sb : Bool, sb = signBad lead q bi := ⟨_, rfl⟩
  go_upto_if 171 with fail
  go_cut [33] from 172 to 179 (fun x wx => wx = wv ∧ x = .bool sb)
  case first =>
    have hbi : bi = 0 ∨ bi = 1 ∨ bi = 2 := by omega
    have hl := HL.out
    have hbb := HBB.out
    clear HL HBB HF8 HWV HBV HB8 HWS HMX hZ' hF HQ eb
    unfold bk at hbb
    cases lead
    · cases q
      · simp at hl
        subst hl
        go_wp2_with fail
        go_meet
        exact ⟨rfl, by rw [hsb]; rfl⟩
      · simp at hl
        subst hl
        rcases hbi with rfl | rfl | rfl
        all_goals
          simp at hbb
          subst hbb
          go_wp2_with fail
          go_meet
          exact ⟨rfl, by rw [hsb]; rfl⟩
    · clear hl
      rcases hbi with rfl | rfl | rfl
      all_goals
        simp at hbb
        subst hbb
        go_wp2_with fail
        go_meet
        exact ⟨rfl, by rw [hsb]; rfl⟩
  case rest =>
  obtain ⟨hw, hx⟩ := hcut
  rw [hw, hx]
  clear hw hx wc
  have HSB := hide hsb
  clear hsb
  obtain ⟨x, hx⟩ : ∃ x : Nat → Nat, x = fun j => Z j % 8 := ⟨_, rfl⟩
  have hx8 : ∀ j, x j = Z j % 8 := fun j => by rw [hx]
  have HX := hide hx8
  clear hx hx8
  go_upto_if 181 with fail
  go_cut [33, 34, 36, 37] from 182 to 201 (fun x33 x34 x36 x37 wx => Below wv.heap.size wv wx ∧ ∃ b : Bool, x33 = .bool b ∧ (b = true ↔ (sb = true ∨ ¬ Fair x k m)))
  case first =>
    clear HL HBB HF8 HWV HMX hF HQ eb HSB
    cases sb with
    | true =>
      go_wp2_with fail
      go_meet
      exact ⟨Below.refl _ _, true, rfl, by simp⟩
    | false =>
      go_wp2_with fail
      obtain ⟨w5, hw5⟩ : ∃ w5, w5 = wv.alloc (.cells #[.bool false, .bool false, .bool false, .bool false, .bool false, .bool false, .bool false, .bool false] 98) := ⟨_, rfl⟩
      obtain ⟨Sn, hSn⟩ : ∃ Sn, Sn = wv.heap.size := ⟨_, rfl⟩
      have hs0 : ∀ j, j < 8 → w5.cell? ⟨Sn, j, none⟩ = some (.bool false) := fun j hj => by
        rw [hw5, hSn]
        have h : j = 0 ∨ j = 1 ∨ j = 2 ∨ j = 3 ∨ j = 4 ∨ j = 5 ∨ j = 6 ∨ j = 7 := by omega
        rcases h with rfl | rfl | rfl | rfl | rfl | rfl | rfl | rfl <;> go_simp
      have hsf0 : ∀ j, w5.frozen? ⟨Sn, j, none⟩ = false := fun j => by rw [hw5, hSn]; go_simp
      have hb5 : Below wv.heap.size wv w5 := by rw [hw5]; exact (Below.refl _ wv).alloc (Nat.le_refl _) _
      rw [← hw5, ← hSn]
      have HSN := hide hSn
      clear hw5 hSn
      go_loopw [184, 33] (fun p x33 wr => ∃ i : Nat, i ≤ m ∧ p = .int .i64 i ∧ x33 = .bool false ∧ Fair x k i ∧ (∀ j, j < 8 → ∃ bq : Bool, wr.cell? ⟨Sn, j, none⟩ = some (.bool bq) ∧ (bq = true ↔ ∃ a, a < i ∧ x a = j)) ∧ (∀ j, wr.frozen? ⟨Sn, j, none⟩ = false) ∧ Below wv.heap.size wv wr) (fun p _ _ => m - (intOf p).toNat)
      case atStart => exact ⟨0, Nat.zero_le _, rfl, rfl, fun a ha => absurd ha (by omega), fun j hj => ⟨false, hs0 j hj, by simp⟩, hsf0, hb5⟩
      case round =>
        clear hs0 hsf0 hb5
        obtain ⟨i, him, rfl, rfl, hfair, hseen, hsf, hbr⟩ := hrel
        by_cases hlt : i < m
        · obtain ⟨hz1, hz2⟩ := hZ'.out
          rcases hz2 with hz2 | ⟨zb, zo, rfl, hzb, hzc⟩
          · omega
          · have hbw : Below w.heap.size w wr := (HB8.out.trans (HBV.out.mono HB8.out.size)).trans (hbr.mono (Nat.le_trans HB8.out.size HBV.out.size))
            have hcell := (hbw.cell (p := ⟨zb, zo + i, none⟩) hzb).trans (hzc i hlt)
            obtain ⟨z, hz⟩ : ∃ z, z = Z i := ⟨_, rfl⟩
            have hz256 := hz1 i hlt
            rw [← hz] at hcell hz256
            obtain ⟨y, hy⟩ : ∃ y, y = z % 8 := ⟨_, rfl⟩
            have e8 : (z : Int) % 8 = (y : Int) := by omega
            have hy8 : y < 8 := by omega
            have HY : Hid (x i = y) := by rw [hy, hz]; exact HX.out i
            clear hz hz1 hzc hy
            obtain ⟨bq, hsc, hsi⟩ := hseen y hy8
            have HSI := hide hsi
            have HSEEN := hide hseen
            have hsfy := hsf y
            have HSF := hide hsf
            have HFA := hide hfair
            clear hsi hseen hsf hfair
            have b1 : (i : Int) < (m : Int) := by omega
            by_cases hyk : k ≤ y
            · have b2 : (k : Int) ≤ (y : Int) := by omega
              go_wp2_with fail
              go_meet
              exact ⟨hbr, true, rfl, by simp; intro hf; have := (hf i hlt).1; rw [HY.out] at this; omega⟩
            · have b2 : (y : Int) < (k : Int) := by omega
              cases bq with
              | true =>
                have HDUP := hide (HSI.out.1 rfl)
                clear HSI
                go_wp2_with fail
                go_meet
                refine ⟨hbr, true, rfl, by simp; intro hf; obtain ⟨a', ha', hxa⟩ := HDUP.out; exact (hf i hlt).2 a' ha' (by rw [hxa, HY.out])⟩
              | false =>
                have HND : Hid (∀ a, a < i → x a ≠ y) := fun a ha e => by have := HSI.out.2 ⟨a, ha, e⟩; cases this
                clear HSI
                go_wp2_with fail
                refine ⟨⟨i + 1, by omega, rfl, rfl, fun a ha => ?_, fun j hj => ?_, fun j => by rw [World.frozen?_setCell]; exact HSF.out j, hbr.setCell (p := ⟨Sn, y, none⟩) (by rw [HSN.out]; exact Nat.le_refl _) _⟩, ?_⟩
                · by_cases e : a = i
                  · subst e
                    rw [HY.out]
                    exact ⟨by omega, fun b' hb' => HND.out b' hb'⟩
                  · exact HFA.out a (by omega)
                · by_cases e : j = y
                  · subst e
                    exact ⟨true, World.cell?_setCell_same _ _ _ hsc, by simp; exact ⟨i, by omega, HY.out⟩⟩
                  · obtain ⟨bq, h1, h2⟩ := HSEEN.out j hj
                    refine ⟨bq, (cell_set_ne (Or.inr (fun h => e h.symm))).trans h1, h2.trans ⟨fun ⟨a, ha, hxa⟩ => ⟨a, by omega, hxa⟩, fun ⟨a, ha, hxa⟩ => ⟨a, ?_, hxa⟩⟩⟩
                    by_cases e2 : a = i
                    · subst e2
                      rw [HY.out] at hxa
                      exact absurd hxa.symm e
                    · omega
                · simp [intOf]; omega
        · obtain rfl : i = m := by omega
          have b1 : ¬ (i : Int) < (i : Int) := by omega
          go_wp2_with fail
          go_meet
          exact ⟨hbr, false, rfl, by simp; exact hfair⟩
  case rest =>
  obtain ⟨hbv2, b, rfl, hb⟩ := hcut
  obtain ⟨wz, rfl⟩ : ∃ wz, wz = wc := ⟨_, rfl⟩
  have HBZ := hide hbv2
  have HBI := hide hb
  clear hbv2 hb
  have hld : Hid (ld = ⟨#[]⟩ ∨ ld = ⟨#[119, 48]⟩) := by
    have h := HL.out
    cases q
    · exact Or.inl (by simpa using h)
    · exact Or.inr (by simpa using h)
  go_upto_if 203 with fail
  go_cut [33] from 204 to 228 (fun x33 wx => wx = wz ∧ ∃ b2 : Bool, x33 = .bool b2 ∧ (b2 = true ↔ (b = true ∨ CountBad lead m n mx ld)))
  case first =>
    clear HL HBB HF8 HWV HBV HWS hF HQ eb HSB HX HBZ HBI HB8 hZ'
    cases b with
    | true =>
      go_wp2_with fail
      go_meet
      exact ⟨rfl, true, rfl, by simp⟩
    | false =>
      cases lead with
      | false =>
        by_cases hcb : wrap64 (mx - n) < m
        · have HC : Hid (CountBad false m n mx ld) := Or.inr (Or.inr hcb)
          go_wp2_with fail
          go_meet
          exact ⟨rfl, true, rfl, fun _ => Or.inr HC.out, fun _ => rfl⟩
        · have HC : Hid (¬ CountBad false m n mx ld) := by rintro (⟨e, _⟩ | ⟨e, _⟩ | e); cases e; cases e; exact hcb e
          go_wp2_with fail
          go_meet
          exact ⟨rfl, false, rfl, fun h => absurd h (by decide), fun h => (h.elim id fun h => absurd h HC.out)⟩
      | true =>
        by_cases h1 : 1 < m
        · have HC : Hid (CountBad true m n mx ld) := Or.inl ⟨rfl, h1⟩
          have b1 : (1 : Int) < (m : Int) := by omega
          go_wp2_with fail
          go_meet
          exact ⟨rfl, true, rfl, fun _ => Or.inr HC.out, fun _ => rfl⟩
        · by_cases h2 : m = 1
          · subst h2
            rcases hld.out with rfl | rfl
            · by_cases hcb : wrap64 (mx - n) < 1
              · have HC : Hid (CountBad true 1 n mx ⟨#[]⟩) := Or.inr (Or.inr hcb)
                go_wp2_with fail
                go_meet
                exact ⟨rfl, true, rfl, fun _ => Or.inr HC.out, fun _ => rfl⟩
              · have HC : Hid (¬ CountBad true 1 n mx ⟨#[]⟩) := by rintro (⟨_, e⟩ | ⟨_, _, e⟩ | e); omega; exact e rfl; exact hcb e
                go_wp2_with fail
                go_meet
                exact ⟨rfl, false, rfl, fun h => absurd h (by decide), fun h => (h.elim id fun h => absurd h HC.out)⟩
            · have HC : Hid (CountBad true 1 n mx ⟨#[119, 48]⟩) := Or.inr (Or.inl ⟨rfl, rfl, fun e => by injection e with e; injection e with e; cases e⟩)
              go_wp2_with fail
              go_meet
              exact ⟨rfl, true, rfl, fun _ => Or.inr HC.out, fun _ => rfl⟩
          · obtain rfl : m = 0 := by omega
            by_cases hcb : wrap64 (mx - n) < 0
            · have HC : Hid (CountBad true 0 n mx ld) := Or.inr (Or.inr hcb)
              go_wp2_with fail
              go_meet
              exact ⟨rfl, true, rfl, fun _ => Or.inr HC.out, fun _ => rfl⟩
            · have HC : Hid (¬ CountBad true 0 n mx ld) := by rintro (⟨_, e⟩ | ⟨_, e, _⟩ | e); omega; omega; exact hcb e
              go_wp2_with fail
              go_meet
              exact ⟨rfl, false, rfl, fun h => absurd h (by decide), fun h => (h.elim id fun h => absurd h HC.out)⟩
  case rest =>
  obtain ⟨hw, b2, rfl, hb2⟩ := hcut
  rw [hw]
  clear hw wc
  have HB2 := hide hb2
  clear hb2
  go_upto_region 56 with fail
  go_cut [235] from 229 to 234 (fun x wx => wx = wz ∧ x = .bool (!b2 && decide (0 < (m : Int))))
  case first =>
    cases b2
    · go_wp2_with fail
      go_meet
      exact ⟨rfl, by simp⟩
    · go_wp2_with fail
      go_meet
      exact ⟨rfl, rfl⟩
  case rest =>
  obtain ⟨hw, hq2⟩ := hcut
  rw [hw]
  clear hw
  obtain ⟨q2, hq2'⟩ : ∃ q2 : Bool, q2 = (!b2 && decide (0 < (m : Int))) := ⟨_, rfl⟩
  rw [← hq2'] at hq2
  rw [hq2]
  clear hq2 wc
  have HQ2 := hide hq2'
  clear hq2'
  go_upto_if 235 with fail
  go_cut [32] from 229 to 229 (fun x wx => wx = wz ∧ ∃ h1 : Int, x = .int .i64 h1 ∧ h1 = if q2 then -1 else at0)
  case first =>
    cases q2
    · go_wp2_with fail
      go_meet
      exact ⟨rfl, _, rfl, rfl⟩
    · go_wp2_with fail
      go_meet
      exact ⟨rfl, _, rfl, rfl⟩
  case rest =>
  obtain ⟨hw, h1, rfl, hh1⟩ := hcut
  rw [hw]
  clear hw wc
  have HH1 := hide hh1
  clear hh1
  go_upto_if 237 with fail
  go_cut [33] from 238 to 238 (fun x wx => wx = wz ∧ ∃ b3 : Bool, x = .bool b3 ∧ (b3 = true ↔ (b2 = true ∨ h1 < 0)))
  case first =>
    by_cases hneg : h1 < 0
    · go_wp2_with fail
      go_meet
      exact ⟨rfl, true, rfl, by simp [hneg]⟩
    · go_wp2_with fail
      go_meet
      exact ⟨rfl, b2, rfl, fun h => Or.inl h, fun h => h.elim id fun h => absurd h (by omega)⟩
  case rest =>
  obtain ⟨hw, b3, rfl, hb3⟩ := hcut
  rw [hw]
  clear hw wc
  have HB3 := hide hb3
  clear hb3
  have HFZ := hide (HF8.out.below (HBV.out.trans (HBZ.out.mono HBV.out.size)))
  have HBT := hide (HB8.out.trans ((HBV.out.trans (HBZ.out.mono HBV.out.size)).mono HB8.out.size))
  have hFz : F.answers wz.tape := by rw [HBT.out.tape]; exact hF
  have hfill := fill_law F hFz HFZ.out bi hB HL.out (fun e => by have h := HQ.out; rw [e] at h; simp at h; omega) m Ws x hm hn5 HMX.out (fun i hi => by rw [HX.out i]; exact below_cell HBZ.out (HWV.out i hi)) (fun i hi => by rw [HX.out i]; omega) HSB.out HBI.out HB2.out (by rw [← HQ2.out]; exact HH1.out) HB3.out
  rw [← HBB.out] at hfill
  clear hF hFz HL HQ HMX HX HWV HBZ HBV HB8 HF8 HSB HBI HB2 HQ2 HH1 HB3 HBB HWS hZ' eb hld hB hm
  have e1 := errNil
  have e2 := errNil2
  have e3 := nilNil
  have e4 := nilNil2
  cases b3 with
  | true =>
    have hbad : Calls Ybaf.prog 19 #[.pointer (some ⟨S, 0, none⟩), .int .i64 h1, .string kG, .string kO, .slice (some ⟨Ws, 0, none⟩) m m, .string bb] wz (Bad wz) := hfill.mono fun e w' h => h.1 rfl
    clear hfill
    go_wp2_with (go_at_call 19; refine hbad.mono ?_; rintro e wy ⟨⟨eb, rfl⟩, hbel⟩; unfold ptr)
    have HY := hide (HFZ.out.below hbel)
    have HBY := hide (HBT.out.trans (hbel.mono HBT.out.size))
    have y6 := HY.out.laid.g6
    have y0 := HY.out.laid.s0
    have hget := get_20 G 17 MO 1 fO wy kO (by show 2 ≤ maxLen; unfold maxLen; omega) HY.out.laid.g19 HY.out.laid.mO lO O HY.out.laid.fOo HY.out.laid.o0
    have hl1 := len_21 G 13 n mW fW wy HY.out.laid.g15 HY.out.laid.hW
    have hl2 := len_22 G 20 k d.mA d.fA wy HY.out.gA HY.out.hA
    have hl3 := len_22 O 5 k d.mP d.fP wy HY.out.laid.op HY.out.laid.hP
    have hhe := height_any Lg 0 wy HY.out.laid.lg
    unfold ptr at hget
    clear hbad hbel HBT HFZ
    go_wp2_with (first
      | (go_at_call 20; refine hget.mono ?_; rintro e w' ⟨rfl, hw⟩; rw [hw]; clear hw w')
      | (go_at_call 21; refine hl1.mono ?_; rintro e w' ⟨rfl, hw⟩; rw [hw]; clear hw w')
      | (go_at_call 22; refine hl2.mono ?_; rintro e w' ⟨rfl, hw⟩; rw [hw]; clear hw w')
      | (go_at_call 22; refine hl3.mono ?_; rintro e w' ⟨rfl, hw⟩; rw [hw]; clear hw w')
      | (go_at_call 23; refine hhe.mono ?_; rintro e w' ⟨rfl, hw⟩; rw [hw]; clear hw w'))
    clear hget hl1 hl2 hl3 hhe
    go_loopw [297] (fun p wr => ∃ i : Nat, i ≤ k ∧ p = .int .i64 i ∧ wr = wy) (fun p _ => k - (intOf p).toNat)
    case atStart => exact ⟨0, Nat.zero_le _, rfl, rfl⟩
    case round =>
      obtain ⟨i, hik, rfl, hw⟩ := hrel
      rw [hw]
      clear hw wr
      by_cases hlt : i < k
      · have b1 : (i : Int) < (k : Int) := by omega
        have hs := HY.out.sl i hlt
        have hv := (HY.out.laid.hV i hlt).1
        unfold ptr at hs
        go_wp2_with fail
        go_roundw
        case rel => exact ⟨i + 1, by omega, rfl, trivial⟩
        case measure => simp [intOf]; omega
      · obtain rfl : i = k := by omega
        have b1 : ¬ (i : Int) < (i : Int) := by omega
        go_wp2_with fail
        go_ret
        exact ⟨rfl, HBY.out⟩
  | false =>
    have hgood := hfill.mono fun e w' h => h.2 rfl
    clear hfill
    go_wp2_with (go_at_call 19; refine hgood.mono ?_; rintro e wy ⟨rfl, w10, w11, hc1, hc2, hc3⟩)
    obtain ⟨⟨y6, y0, yl⟩, ⟨y15, hW⟩, ⟨y22, hA⟩, ⟨y19, hMO⟩, hVs, hBB⟩ := full_closed HFZ.out hc1 hc2 hc3
    have HBY := hide (HBT.out.trans hBB)
    have hget := miss_20 G 17 MO 0 (fdel fO kO) wy kO (by show 2 ≤ maxLen; unfold maxLen; omega) y19 hMO (by unfold fdel; exact if_pos rfl)
    have hl1 := len_21 G 13 n mW fW wy y15 hW
    have hl2 := len_22 G 20 k d.mA d.fA wy y22 hA
    have hhe := height_any Lg h1 wy yl
    have HVS := hide hVs
    clear hgood hc1 hc2 hc3 HBT HFZ y15 hW y22 hA y19 hMO hVs hBB yl
    go_wp2_with (first
      | (go_at_call 20; refine hget.mono ?_; rintro e w' ⟨rfl, hw⟩; rw [hw]; clear hw w')
      | (go_at_call 21; refine hl1.mono ?_; rintro e w' ⟨rfl, hw⟩; rw [hw]; clear hw w')
      | (go_at_call 22; refine hl2.mono ?_; rintro e w' ⟨rfl, hw⟩; rw [hw]; clear hw w')
      | (go_at_call 23; refine hhe.mono ?_; rintro e w' ⟨rfl, hw⟩; rw [hw]; clear hw w'))
    clear hget hl1 hl2 hhe
    go_loopw [323] (fun p wr => ∃ i : Nat, i ≤ k ∧ p = .int .i64 i ∧ wr = wy) (fun p _ => k - (intOf p).toNat)
    case atStart => exact ⟨0, Nat.zero_le _, rfl, rfl⟩
    case round =>
      obtain ⟨i, hik, rfl, hw⟩ := hrel
      rw [hw]
      clear hw wr
      by_cases hlt : i < k
      · have b1 : (i : Int) < (k : Int) := by omega
        obtain ⟨hs, hv⟩ := HVS.out i hlt
        unfold ptr at hs
        go_wp2_with fail
        go_roundw
        case rel => exact ⟨i + 1, by omega, rfl, trivial⟩
        case measure => simp [intOf]; omega
      · obtain rfl : i = k := by omega
        have b1 : ¬ (i : Int) < (i : Int) := by omega
        go_wp2_with fail
        go_ret
        exact ⟨rfl, HBY.out⟩
end Go.Proofs.YbulkldcFmt
