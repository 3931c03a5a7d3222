/-
  What stands ahead of the applications' loop.
-/
import Derived.Test.YbulkldcFmtStage
namespace Go.Proofs.YbulkldcFmt
open Go.RowKit
set_option linter.unusedVariables false

/-- The workers' roster, as the law lays it; Q: the blocks that turn later. -/
def Workers (W : World) (G n : Nat) (Q : Nat → Prop) (mW : Option Nat) (fW : ByteArray → Option Value) (LW VW : Nat → Nat) (PW : Nat → Prop) : Prop :=
  Ros W G 13 n wk mW fW LW VW PW ∧ (∀ x, PW x → ¬ Q x) ∧ (0 < n → W.cell? ⟨VW 0, 2, none⟩ = some (.string (rk 0)) ∧ ¬ Q (VW 0))

theorem Workers.keeps {W W' : World} {G n : Nat} {Q S : Nat → Prop} {mW : Option Nat} {fW : ByteArray → Option Value} {LW VW : Nat → Nat} {PW : Nat → Prop} (h : Workers W G n Q mW fW LW VW PW) (hk : Keeps S W W') (hS : ∀ x, x < W.heap.size → S x → Q x) (hc : ∀ j, j = 13 ∨ j = 14 ∨ j = 15 → W'.cell? ⟨G, j, none⟩ = W.cell? ⟨G, j, none⟩) : Workers W' G n Q mW fW LW VW PW := by
  obtain ⟨h1, h2, h3⟩ := h
  refine ⟨h1.keeps hk (fun x hx hs => h2 x hx (hS x (h1.pb x hx).1 hs)) hc, h2, fun h0 => ?_⟩
  obtain ⟨h4, h5⟩ := h3 h0
  have hlt : VW 0 < W.heap.size := World.block_lt_of_cell? W ⟨VW 0, 2, none⟩ h4
  exact ⟨(hk.cell (p := ⟨VW 0, 2, none⟩) hlt fun hs => h5 (hS _ hlt hs)).trans h4, h5⟩

structure Base (W2 : World) (G O As Mi n k : Nat) (mx : Int) (ld : ByteArray) (lead : Bool) : Prop where
  g0 : W2.cell? ⟨G, 0, none⟩ = some (.string kG)
  g1 : W2.cell? ⟨G, 1, none⟩ = some (.string kC)
  g2 : W2.cell? ⟨G, 2, none⟩ = some (.int .i64 mx)
  g6 : W2.cell? ⟨G, 6, none⟩ = some (.string ld)
  g16 : W2.cell? ⟨G, 16, none⟩ = some (.slice none 0 0)
  g17 : W2.cell? ⟨G, 17, none⟩ = some (.pointer none)
  g18 : W2.cell? ⟨G, 18, none⟩ = some (.pointer none)
  g19 : W2.cell? ⟨G, 19, none⟩ = some (.map none)
  g24 : W2.cell? ⟨G, 24, none⟩ = some (.map (some Mi))
  o0 : W2.cell? ⟨O, 0, none⟩ = some (.string kO)
  o1 : W2.cell? ⟨O, 1, none⟩ = some (.bool lead)
  dist : Dist W2 G O As Mi
  wrk : ∃ mW fW LW VW PW, Workers W2 G n (fun x => x = G ∨ x = O ∨ x = As ∨ x = Mi) mW fW LW VW PW

theorem base_start {w w1 W0 wc w3 : World} {G n k : Nat} {mx : Int} {ld : ByteArray} {lead : Bool} (hk5 : k ≤ 5) (hg1 : (w.alloc (.map #[] 0)).grownBy w1 (some w.heap.size))
    (hW0 : W0 = (w1.alloc (.map #[] 0)).alloc (.cells #[.string ⟨#[103]⟩, .string ⟨#[99]⟩, .int .i64 mx, .int .i64 0, .int .i64 0, .int .i64 0, .string ld, .int .i64 0, .int .i64 0, .int .i64 0, .int .i64 0, .int .i64 0, .bool false, .pointer none, .pointer none, .map none, .slice none 0 0, .pointer none, .pointer none, .map none, .pointer none, .pointer none, .map none, .map (some w.heap.size), .map (some w1.heap.size)] 60))
    (hG : G = w1.heap.size + 1) (hS : Stage1 W0 G n wc) (xs : List Value) (hxs : xs = List.replicate k (Value.pointer none))
    (sz : Nat) (hsz : sz = wc.heap.size + 1) (hown : w3.ownsRow sz 74 1 (.slice (some ⟨sz, 0, none⟩) k k) k xs)
    (hgrow : (wc.alloc (.cells #[.string ⟨#[111, 49]⟩, .bool lead, .int .i64 0, .int .i64 0, .int .i64 0, .pointer none, .pointer none, .map none] 72)).grownBy w3 none) :
    Base w3 G wc.heap.size (wc.heap.size + 1) w1.heap.size n k mx ld lead ∧ (∃ d, St w3 G wc.heap.size (wc.heap.size + 1) w1.heap.size k (fun _ => 0) 0 0 0 0 d w3) ∧ Below w.heap.size w w3 ∧ w.heap.size ≤ G ∧ w.heap.size ≤ wc.heap.size ∧ w.heap.size ≤ wc.heap.size + 1 ∧ w.heap.size ≤ w1.heap.size := by
  subst hsz
  obtain ⟨mW, fW, LW, VW, PW, hR, hP, hV, hr0, hK, hC, hF⟩ := hS
  have z1 : w.heap.size + 1 ≤ w1.heap.size := by have := hg1.size; simpa using this
  have z2 : W0.heap.size = w1.heap.size + 2 := by rw [hW0]; simp
  have z3 := hK.size
  have z4 : wc.heap.size + 2 ≤ w3.heap.size := by
    have h := (hown.lt _ rfl).2
    have h' : wc.heap.size + 1 < w3.heap.size := by simpa using h
    omega
  have hkx : Keeps (fun _ => False) wc w3 := ((Keeps.refl _ wc).alloc _).grown hgrow fun k e => by cases e
  have hcx : ∀ b j, b < wc.heap.size → w3.cell? ⟨b, j, none⟩ = wc.cell? ⟨b, j, none⟩ := fun b j hb => hkx.cell (p := ⟨b, j, none⟩) hb fun e => e
  have hfx : ∀ b j, b < wc.heap.size → w3.frozen? ⟨b, j, none⟩ = wc.frozen? ⟨b, j, none⟩ := fun b j hb => hkx.frozen (p := ⟨b, j, none⟩) hb fun e => e
  have hgx : ∀ j, j ≠ 13 → j ≠ 14 → j ≠ 15 → w3.cell? ⟨G, j, none⟩ = W0.cell? ⟨G, j, none⟩ := fun j h1 h2 h3 => (hcx G j (by omega)).trans (hC j h1 h2 h3)
  have hox : ∀ j, w3.cell? ⟨wc.heap.size, j, none⟩ = (wc.alloc (.cells #[.string ⟨#[111, 49]⟩, .bool lead, .int .i64 0, .int .i64 0, .int .i64 0, .pointer none, .pointer none, .map none] 72)).cell? ⟨wc.heap.size, j, none⟩ := fun j => World.cell?_of_block (hgrow.block _ (by simp) (by simp))
  have hofx : ∀ j, w3.frozen? ⟨wc.heap.size, j, none⟩ = (wc.alloc (.cells #[.string ⟨#[111, 49]⟩, .bool lead, .int .i64 0, .int .i64 0, .int .i64 0, .pointer none, .pointer none, .map none] 72)).frozen? ⟨wc.heap.size, j, none⟩ := fun j => grown_frozen hgrow (by simp) (by simp)
  have hd : Dist w3 G wc.heap.size (wc.heap.size + 1) w1.heap.size := ⟨by omega, by omega, by omega, by omega, by omega, by omega, by omega, by omega, by omega, by omega⟩
  refine ⟨⟨?_, ?_, ?_, ?_, ?_, ?_, ?_, ?_, ?_, ?_, ?_, hd, mW, fW, LW, VW, PW, ?_⟩, ⟨⟨none, fun _ => none, fun _ => 0, fun _ => False, none, fun _ => none, fun _ => 0, fun _ => False, fun _ => none⟩, ?_⟩, ?_, by omega, by omega, by omega, by omega⟩
  · rw [hgx 0 (by omega) (by omega) (by omega), hW0, hG]; go_simp; rfl
  · rw [hgx 1 (by omega) (by omega) (by omega), hW0, hG]; go_simp; rfl
  · rw [hgx 2 (by omega) (by omega) (by omega), hW0, hG]; go_simp
  · rw [hgx 6 (by omega) (by omega) (by omega), hW0, hG]; go_simp
  · rw [hgx 16 (by omega) (by omega) (by omega), hW0, hG]; go_simp
  · rw [hgx 17 (by omega) (by omega) (by omega), hW0, hG]; go_simp
  · rw [hgx 18 (by omega) (by omega) (by omega), hW0, hG]; go_simp
  · rw [hgx 19 (by omega) (by omega) (by omega), hW0, hG]; go_simp
  · rw [hgx 24 (by omega) (by omega) (by omega), hW0, hG]; go_simp
  · rw [hox]; go_simp; rfl
  · rw [hox]; go_simp
  · refine ⟨hR.keeps hkx (fun x _ e => e) fun j _ => hcx G j (by omega), fun x hx e => ?_, fun h0 => ?_⟩
    · have h1 := hP x hx
      have h2 := (hR.pb x hx).1
      have h3 := (hR.pb x hx).2
      omega
    · obtain ⟨h1, h2, h3⟩ := hV 0 h0
      refine ⟨(hcx _ _ h2).trans (hr0 h0), fun e => ?_⟩
      omega
  · refine { rA := ros_empty ?_ ?_ ?_, rP := ros_empty ?_ ?_ ?_, pA := fun _ h => h.elim, pP := fun _ h => h.elim, v0 := fun _ h => absurd h (by omega), v5 := fun _ h => absurd h (by omega), vi := fun _ _ h => absurd h (by omega), sl := fun _ h => absurd h (by omega), ax := ?_, af := ?_, mi := ?_, fi := fun _ _ _ => rfl, gf := ?_, of := ?_, gc := fun _ _ _ _ => rfl, oc := fun _ _ _ _ => rfl, kp := Keeps.refl _ _ }
    · rw [hgx 20 (by omega) (by omega) (by omega), hW0, hG]; go_simp
    · rw [hgx 21 (by omega) (by omega) (by omega), hW0, hG]; go_simp
    · rw [hgx 22 (by omega) (by omega) (by omega), hW0, hG]; go_simp
    · rw [hox]; go_simp
    · rw [hox]; go_simp
    · rw [hox]; go_simp
    · intro q hq
      have h1 := hown.cellAt q (by omega)
      rw [hxs, List.getElem?_eq_getElem (by simpa using hq)] at h1
      exact ⟨_, h1⟩
    · intro j
      exact hown.frozenAt j
    · refine MapAt.of_block ?_ (hkx.2.2.2.2 w1.heap.size (by omega) fun e => e)
      refine MapAt.of_block ?_ (hK.2.2.2.2 w1.heap.size (by omega) (by omega))
      rw [hW0]
      exact (mapAt_made w1).of_block (Below.heap_alloc _ _ _ (by simp))
    · intro j
      rw [hfx _ _ (by omega)]
      exact hF j
    · intro j
      rw [hofx]
      go_simp
  · have hb1 : Below w.heap.size w w1 := ((Below.refl _ w).alloc (Nat.le_refl _) _).grown hg1 (by simp) (fun r e => by injection e with e; omega)
    have hb0 : Below w.heap.size w W0 := by rw [hW0]; exact (hb1.alloc hb1.size _).alloc (by simp; omega) _
    have hb2 : Below w.heap.size W0 wc := hK.below (by omega) fun x _ e => by omega
    have hb3 : Below w.heap.size wc w3 := hkx.below (by omega) fun x _ e => e.elim
    exact (hb0.trans hb2).trans hb3

/-- All that stands ahead of Fill. -/
structure Full (B : Nat) (w : World) (S G O Lg MB MO lO As k n : Nat) (fB fO fP fW fA : ByteArray → Option Value) (L V : Nat → Nat) (mP mW mA : Option Nat) (lw vw : Nat) (mx : Int) (lead : Bool) (ld : ByteArray) (u0 u1 : Value) : Prop where
  laid : Laid w S G O Lg MB 1 MO lO k n fB fO fP fW L V mP mW mx lead ld u0 u1
  gA : w.cell? ⟨G, 22, none⟩ = some (.map mA)
  hA : (mA = none ∧ k = 0) ∨ ∃ M, mA = some M ∧ MapAt w M k fA
  sl : ∀ q, q < k → w.cell? ⟨As, q, none⟩ = some (ptr (V q))
  wkr : 0 < n → fW (wk 0) = some (ptr lw) ∧ w.cell? ⟨lw, 0, none⟩ = some (ptr vw) ∧ w.cell? ⟨vw, 2, none⟩ = some (.string (rk 0))
  hVi : ∀ i j, i < k → j < k → V i = V j → i = j
  hLi : ∀ i j, i < k → j < k → L i = L j → i = j
  hVL : ∀ i j, i < k → j < k → L i ≠ V j
  hVO : ∀ j, j < k → O ≠ V j
  hVG : ∀ j, j < k → G ≠ V j
  hVM : ∀ j, j < k → MO ≠ V j
  hVl : ∀ j, j < k → lO ≠ V j
  hGl : G ≠ lO
  hLg : Lg ≠ G ∧ Lg ≠ O ∧ Lg ≠ MO ∧ Lg ≠ lO ∧ (∀ j, j < k → Lg ≠ V j ∧ Lg ≠ L j)
  nA : As ≠ G ∧ As ≠ MO ∧ As ≠ Lg ∧ ∀ j, j < k → As ≠ V j
  nS : S ≠ G ∧ S ≠ MO ∧ S ≠ Lg ∧ ∀ j, j < k → S ≠ V j
  nW : ∀ M, mW = some M → M ≠ G ∧ M ≠ MO ∧ M ≠ Lg ∧ ∀ j, j < k → M ≠ V j
  nM : ∀ M, mA = some M → M ≠ G ∧ M ≠ MO ∧ M ≠ Lg ∧ ∀ j, j < k → M ≠ V j
  old : B ≤ G ∧ B ≤ MO ∧ B ≤ Lg ∧ (∀ j, j < k → B ≤ V j) ∧ B ≤ w.heap.size

theorem Full.below {B : Nat} {w w' : World} {S G O Lg MB MO lO As k n : Nat} {fB fO fP fW fA : ByteArray → Option Value} {L V : Nat → Nat} {mP mW mA : Option Nat} {lw vw : Nat} {mx : Int} {lead : Bool} {ld : ByteArray} {u0 u1 : Value} (h : Full B w S G O Lg MB MO lO As k n fB fO fP fW fA L V mP mW mA lw vw mx lead ld u0 u1) (hb : Below w.heap.size w w') :
    Full B w' S G O Lg MB MO lO As k n fB fO fP fW fA L V mP mW mA lw vw mx lead ld u0 u1 :=
  { h with
    laid := h.laid.below hb, gA := below_cell hb h.gA, hA := by
      rcases h.hA with h1 | ⟨M, h1, h2⟩
      · exact Or.inl h1
      · exact Or.inr ⟨M, h1, below_map hb h2⟩,
    sl := fun q hq => below_cell hb (h.sl q hq), wkr := fun h0 => ⟨(h.wkr h0).1, below_cell hb (h.wkr h0).2.1, below_cell hb (h.wkr h0).2.2⟩,
    old := ⟨h.old.1, h.old.2.1, h.old.2.2.1, h.old.2.2.2.1, Nat.le_trans h.old.2.2.2.2 hb.size⟩ }

theorem full_of {B : Nat} {W2 wr w4 w7 : World} {S G O Lg MB As Mi n k : Nat} {V : Nat → Nat} {d : Dat} {mx : Int} {ld : ByteArray} {lead : Bool} (hk5 : k ≤ 5) (hB : Base W2 G O As Mi n k mx ld lead) (hBG : B ≤ G) (hBW : B ≤ W2.heap.size) (hS : St W2 G O As Mi k V k k k k d wr) (ha : Added0 G 17 kO O wr w4) (hk : Keeps (fun _ => False) w4 w7)
    (hSn : w4.heap.size ≤ S) (s0 : w7.cell? ⟨S, 0, none⟩ = some (.pointer (some ⟨Lg, 0, none⟩))) (s2 : w7.cell? ⟨S, 2, none⟩ = some (.map (some MB))) (mB : MapAt w7 MB 1 (fput (fun _ => none) kG (ptr G))) (hLn : w4.heap.size ≤ Lg) (hSL : S ≠ Lg) (lg : w7.cell? ⟨Lg, 0, none⟩ = some (.int .i64 0)) (lgf : w7.frozen? ⟨Lg, 0, none⟩ = false) :
    ∃ MO lO fO mW fW lw vw, Full B w7 S G O Lg MB MO lO As k n (fput (fun _ => none) kG (ptr G)) fO d.fP fW d.fA d.LP V d.mP mW d.mA lw vw mx lead ld (ptr lO) (ptr lO) := by
  obtain ⟨lO, MO, hl, hM, hlM, a17, a18, a19, aM, b0, b1, b2, bf, hka, hca, hfa⟩ := ha
  obtain ⟨mW, fW, LW, VW, PW, hWk⟩ := hB.wrk
  have hd := hB.dist
  have lG := hd.lG
  have lO' := hd.lO
  have lA := hd.lA
  have lM := hd.lM
  have z1 := hS.kp.size
  have z2 := hka.size
  have z3 := hk.size
  have hlw : lO < w4.heap.size := World.block_lt_of_cell? w4 ⟨lO, 0, none⟩ b0
  have hMw : MO < w4.heap.size := aM.lt
  -- cells of w7
  have c47 : ∀ b j, b < w4.heap.size → w7.cell? ⟨b, j, none⟩ = w4.cell? ⟨b, j, none⟩ := fun b j hb => hk.cell (p := ⟨b, j, none⟩) hb fun e => e
  have f47 : ∀ b j, b < w4.heap.size → w7.frozen? ⟨b, j, none⟩ = w4.frozen? ⟨b, j, none⟩ := fun b j hb => hk.frozen (p := ⟨b, j, none⟩) hb fun e => e
  have cR7 : ∀ b j, b < wr.heap.size → b ≠ G → w7.cell? ⟨b, j, none⟩ = wr.cell? ⟨b, j, none⟩ := fun b j hb hn => (c47 b j (by omega)).trans (hka.cell (p := ⟨b, j, none⟩) hb hn)
  have fR7 : ∀ b j, b < wr.heap.size → b ≠ G → w7.frozen? ⟨b, j, none⟩ = wr.frozen? ⟨b, j, none⟩ := fun b j hb hn => (f47 b j (by omega)).trans (hka.frozen (p := ⟨b, j, none⟩) hb hn)
  have g7 : ∀ j, j ≠ 17 → j ≠ 18 → j ≠ 19 → w7.cell? ⟨G, j, none⟩ = wr.cell? ⟨G, j, none⟩ := fun j h1 h2 h3 => (c47 G j (by omega)).trans (hca j h1 h2 h3)
  have hkR : Keeps (fun x => x = G) wr w7 := hka.andThen hk fun x _ e => e.elim
  have rA : Ros w7 G 20 k ak d.mA d.fA d.LA V d.PA := hS.rA.keeps hkR (fun x hx e => (hS.rA.pb x hx).2 e) fun j hj => g7 j (by omega) (by omega) (by omega)
  have rP : Ros w7 O 5 k ak d.mP d.fP d.LP V d.PP := hS.rP.keeps hkR (fun x hx e => by have := hS.pP x hx; omega) fun j hj => cR7 O j (by omega) (Ne.symm hd.GO)
  have hW7 : Workers w7 G n (fun x => x = G ∨ x = O ∨ x = As ∨ x = Mi) mW fW LW VW PW := by
    refine (hWk.keeps hS.kp (fun x _ e => e) fun j hj => hS.gc j (by omega) (by omega) (by omega)).keeps hkR (fun x _ e => Or.inl e) fun j hj => g7 j (by omega) (by omega) (by omega)
  obtain ⟨rW, qW, vW⟩ := hW7
  have hPW : ∀ x, PW x → x < W2.heap.size := fun x hx => (hWk.1.pb x hx).1
  have hLP : ∀ j, j < k → W2.heap.size ≤ d.LP j ∧ d.LP j < wr.heap.size := fun j hj => ⟨hS.pP _ (hS.rP.pl j hj), (hS.rP.pb _ (hS.rP.pl j hj)).1⟩
  have hV1 : ∀ j, j < k → W2.heap.size ≤ V j ∧ V j < wr.heap.size := fun j hj => ⟨(hS.v0 j hj).1, (hS.v0 j hj).2.1⟩
  have old7 : ∀ j, j ≠ 17 → j ≠ 18 → j ≠ 19 → j ≠ 20 → j ≠ 21 → j ≠ 22 → w7.cell? ⟨G, j, none⟩ = W2.cell? ⟨G, j, none⟩ := fun j h1 h2 h3 h4 h5 h6 => (g7 j h1 h2 h3).trans (hS.gc j h4 h5 h6)
  refine ⟨MO, lO, fput (fun _ => none) kO (ptr lO), mW, fW, LW 0, VW 0, { laid := { s0 := s0, s2 := s2, mB := mB, fBg := ?_, g0 := ?_, g1 := ?_, g2 := ?_, g6 := ?_, g15 := rW.c2, hW := rW.map, g16 := ?_, g17 := ?_, g18 := ?_, g19 := ?_, gf := ?_, mO := ?_, fOo := ?_, o0 := ?_, o1 := ?_, o2 := ?_, oid := ?_, ole := ?_, op := rP.c2, hP := rP.map, fPs := rP.fs, fPn := fun j h1 h2 => rP.fn j h1 h2, ch := ⟨rP.c0, rP.l0⟩, hV := ?_, lg := lg, lgf := lgf }, gA := rA.c2, hA := rA.map, sl := ?_, wkr := ?_, hVi := hS.vi, hLi := rP.inj, hVL := ?_, hVO := ?_, hVG := ?_, hVM := ?_, hVl := ?_, hGl := ?_, hLg := ?_, nA := ?_, nS := ?_, nW := ?_, nM := ?_, old := ?_ }⟩
  · unfold fput; exact if_pos rfl
  · rw [old7 0 (by omega) (by omega) (by omega) (by omega) (by omega) (by omega)]; exact hB.g0
  · rw [old7 1 (by omega) (by omega) (by omega) (by omega) (by omega) (by omega)]; exact hB.g1
  · rw [old7 2 (by omega) (by omega) (by omega) (by omega) (by omega) (by omega)]; exact hB.g2
  · rw [old7 6 (by omega) (by omega) (by omega) (by omega) (by omega) (by omega)]; exact hB.g6
  · rw [old7 16 (by omega) (by omega) (by omega) (by omega) (by omega) (by omega)]; exact hB.g16
  · rw [c47 _ _ (by omega)]; exact a17
  · rw [c47 _ _ (by omega)]; exact a18
  · rw [c47 _ _ (by omega)]; exact a19
  · intro j; rw [f47 _ _ (by omega), hfa]; exact hS.gf j
  · exact aM.of_block (hk.2.2.2.2 MO hMw fun e => e)
  · unfold fput; exact if_pos rfl
  · rw [c47 _ _ hlw]; exact b0
  · rw [c47 _ _ hlw]; exact b1
  · rw [c47 _ _ hlw]; exact b2
  · rw [cR7 _ _ (by omega) (Ne.symm hd.GO), hS.oc 0 (by omega) (by omega) (by omega)]; exact hB.o0
  · rw [cR7 _ _ (by omega) (Ne.symm hd.GO), hS.oc 1 (by omega) (by omega) (by omega)]; exact hB.o1
  · intro j hj
    obtain ⟨h1, h2⟩ := hV1 j hj
    rw [cR7 _ _ h2 (by omega), fR7 _ _ h2 (by omega)]
    exact ⟨(hS.v5 j hj).1, (hS.v5 j hj).2.1⟩
  · intro q hq
    rw [cR7 _ _ (by omega) (Ne.symm hd.GA)]
    exact hS.sl q hq
  · intro h0
    exact ⟨rW.fs 0 h0, (rW.l0 0 h0).1, (vW h0).1⟩
  · intro i j hi hj e
    exact (hS.v0 j hj).2.2.2 (e ▸ hS.rP.pl i hi)
  · intro j hj; have := hV1 j hj; omega
  · intro j hj; have := hV1 j hj; omega
  · intro j hj; have := hV1 j hj; omega
  · intro j hj; have := hV1 j hj; omega
  · omega
  · refine ⟨by omega, by omega, by omega, by omega, fun j hj => ?_⟩
    have h1 := hV1 j hj
    have h2 := hLP j hj
    exact ⟨by omega, by omega⟩
  · refine ⟨Ne.symm hd.GA, by omega, by omega, fun j hj => ?_⟩
    have h1 := hV1 j hj
    omega
  · refine ⟨by omega, by omega, hSL, fun j hj => ?_⟩
    have h1 := hV1 j hj
    omega
  · intro M e
    have h1 := (hWk.1.pm M e).1
    have h2 := hPW M h1
    have h3 := (hWk.1.pb M h1).2
    refine ⟨h3, by omega, by omega, fun j hj => ?_⟩
    have h1 := hV1 j hj
    omega
  · intro M e
    have h1 := (hS.rA.pm M e).1
    have h2 := (hS.rA.pb M h1)
    refine ⟨h2.2, by omega, by omega, fun j hj e' => ?_⟩
    exact (hS.v0 j hj).2.2.1 (e' ▸ h1)
  · refine ⟨hBG, by omega, by omega, fun j hj => ?_, by omega⟩
    have h1 := hV1 j hj
    omega

/-- Ahead of Fill, as the walk has it. -/
theorem full_start {B : Nat} {W2 wr w4 w6 : World} {G O As Mi n k : Nat} {V : Nat → Nat} {d : Dat} {mx : Int} {ld : ByteArray} {lead : Bool} (hk5 : k ≤ 5) (hB : Base W2 G O As Mi n k mx ld lead) (hBG : B ≤ G ∧ B ≤ O ∧ B ≤ As ∧ B ≤ Mi) (hBW : B ≤ W2.heap.size) (hS : St W2 G O As Mi k V k k k k d wr) (ha : Added0 G 17 kO O wr w4)
    (hg6 : (((w4.alloc (.cells #[.int .i64 0, .slice none 0 0, .map none, .int .i64 0, .int .i64 0, .int .i64 0, .int .i64 0, .int .i64 0, .slice none 0 0, .slice none 0 0] 91)).alloc (.cells #[.pointer (some ⟨G, 0, none⟩)] 38)).alloc (.map #[] 0)).grownBy w6 (some (w4.heap.size + 1 + 1)))
    (hmb : MapAt w6 (w4.heap.size + 1 + 1) (0 + 1) (fput (fun _ => none) kG (.pointer (some ⟨G, 0, none⟩)))) :
    ∃ MO lO fO mW fW lw vw, Full B ((w6.alloc (.cells #[.pointer (some ⟨w4.heap.size, 0, none⟩), .slice (some ⟨w4.heap.size + 1, 0, none⟩) 1 1, .map (some (w4.heap.size + 1 + 1)), .int .i64 9223372036854775807] 95)).alloc (.cells #[.string ⟨#[99]⟩, .string ⟨#[114, 48]⟩, .string ⟨#[120]⟩] 96)) w6.heap.size G O w4.heap.size (w4.heap.size + 1 + 1) MO lO As k n (fput (fun _ => none) kG (ptr G)) fO d.fP fW d.fA d.LP V d.mP mW d.mA lw vw mx lead ld (ptr lO) (ptr lO) ∧
      Below B W2 ((w6.alloc (.cells #[.pointer (some ⟨w4.heap.size, 0, none⟩), .slice (some ⟨w4.heap.size + 1, 0, none⟩) 1 1, .map (some (w4.heap.size + 1 + 1)), .int .i64 9223372036854775807] 95)).alloc (.cells #[.string ⟨#[99]⟩, .string ⟨#[114, 48]⟩, .string ⟨#[120]⟩] 96)) := by
  have z6 : w4.heap.size + 3 ≤ w6.heap.size := by have h := hg6.size; simpa using h
  have hk46 : Keeps (fun _ => False) w4 w6 := (((Keeps.refl _ w4).alloc _).alloc _).alloc _ |>.grown hg6 fun x e => Or.inr (by injection e with e; omega)
  have hk48 : Keeps (fun _ => False) w4 ((w6.alloc (.cells #[.pointer (some ⟨w4.heap.size, 0, none⟩), .slice (some ⟨w4.heap.size + 1, 0, none⟩) 1 1, .map (some (w4.heap.size + 1 + 1)), .int .i64 9223372036854775807] 95)).alloc (.cells #[.string ⟨#[99]⟩, .string ⟨#[114, 48]⟩, .string ⟨#[120]⟩] 96)) := (hk46.alloc _).alloc _
  have hold : ∀ b, b < w6.heap.size → ((w6.alloc (.cells #[.pointer (some ⟨w4.heap.size, 0, none⟩), .slice (some ⟨w4.heap.size + 1, 0, none⟩) 1 1, .map (some (w4.heap.size + 1 + 1)), .int .i64 9223372036854775807] 95)).alloc (.cells #[.string ⟨#[99]⟩, .string ⟨#[114, 48]⟩, .string ⟨#[120]⟩] 96)).heap[b]? = w6.heap[b]? := fun b hb => (Below.heap_alloc _ _ _ (by simp; omega)).trans (Below.heap_alloc _ _ _ hb)
  have hblk : w6.heap[w4.heap.size]? = (((w4.alloc (.cells #[.int .i64 0, .slice none 0 0, .map none, .int .i64 0, .int .i64 0, .int .i64 0, .int .i64 0, .int .i64 0, .slice none 0 0, .slice none 0 0] 91)).alloc (.cells #[.pointer (some ⟨G, 0, none⟩)] 38)).alloc (.map #[] 0)).heap[w4.heap.size]? := hg6.block _ (by simp; omega) (by intro e; injection e with e; omega)
  have hBr : Below B W2 wr := hS.kp.below hBW fun x _ e => by rcases e with e | e | e | e <;> omega
  have hB4 : Below B wr w4 := by
    obtain ⟨l, M, _, _, _, _, _, _, _, _, _, _, _, hka, _⟩ := ha
    exact hka.below (by have := hS.kp.size; omega) fun x _ e => by omega
  have hB8 := hk48.below (B := B) (by have h1 := hBr.size; have h2 := hB4.size; omega) fun x _ e => e.elim
  obtain ⟨MO, lO, fO, mW, fW, lw, vw, hfull⟩ := full_of (S := w6.heap.size) (Lg := w4.heap.size) (MB := w4.heap.size + 1 + 1) hk5 hB hBG.1 hBW hS ha hk48 (by omega) (by go_simp) (by go_simp) (hmb.of_block (hold _ (by omega))) (Nat.le_refl _) (by omega)
    (by rw [World.cell?_of_block (hold w4.heap.size (by omega)), World.cell?_of_block hblk]; go_simp) (by rw [World.frozen?_of_block (hold w4.heap.size (by omega)), World.frozen?_of_block hblk]; go_simp)
  exact ⟨MO, lO, fO, mW, fW, lw, vw, hfull, (hBr.trans hB4).trans hB8⟩

/-- Behind the one good Fill. -/
theorem full_closed {B : Nat} {w w1 w2 w' : World} {S G O Lg MB MO lO As k n : Nat} {fB fO fP fW fA : ByteArray → Option Value} {L V : Nat → Nat} {mP mW mA : Option Nat} {lw vw : Nat} {mx at0 : Int} {lead : Bool} {ld : ByteArray} {u0 u1 : Value} (h0 : Full B w S G O Lg MB MO lO As k n fB fO fP fW fA L V mP mW mA lw vw mx lead ld u0 u1) (hb : Below w.heap.size w w1) (h2 : w2 = w1.setCell ⟨Lg, 0, none⟩ (.int .i64 at0)) (hc : Closed G MO 0 k V fO kO w2 w') :
    (w'.cell? ⟨G, 6, none⟩ = some (.string ld) ∧ w'.cell? ⟨S, 0, none⟩ = some (.pointer (some ⟨Lg, 0, none⟩)) ∧ w'.cell? ⟨Lg, 0, none⟩ = some (.int .i64 at0)) ∧
      (w'.cell? ⟨G, 15, none⟩ = some (.map mW) ∧ ((mW = none ∧ n = 0) ∨ ∃ M, mW = some M ∧ MapAt w' M n fW)) ∧ (w'.cell? ⟨G, 22, none⟩ = some (.map mA) ∧ ((mA = none ∧ k = 0) ∨ ∃ M, mA = some M ∧ MapAt w' M k fA)) ∧
      (w'.cell? ⟨G, 19, none⟩ = some (.map (some MO)) ∧ MapAt w' MO 0 (fdel fO kO)) ∧ (∀ q, q < k → w'.cell? ⟨As, q, none⟩ = some (ptr (V q)) ∧ w'.cell? ⟨V q, 5, none⟩ = some (.int .u8 1)) ∧ Below B w w' := by
  have h := h0.below hb
  obtain ⟨c1, c2, c3, c4, c5⟩ := hc
  have hset : ∀ b j, b ≠ Lg → w2.cell? ⟨b, j, none⟩ = w1.cell? ⟨b, j, none⟩ := fun b j hn => by rw [h2]; exact cell_set_ne (Or.inl (Ne.symm hn))
  have hsz : w2.heap.size = w1.heap.size := by rw [h2]; simp
  have hblk : ∀ b, b < w1.heap.size → b ≠ Lg → b ≠ G → b ≠ MO → (∀ j, j < k → b ≠ V j) → w'.heap[b]? = w1.heap[b]? := fun b hb' n1 n2 n3 n4 => by
    rw [c5.2.2.2.2 b (by omega) (by rintro (e | e | ⟨j, hj, e⟩); exact n2 e; exact n3 e; exact n4 j hj e), h2]
    exact Below.heap_setCell _ _ _ _ n1
  obtain ⟨L1, L2, L3, L4, L5⟩ := h.hLg
  have hLgw : Lg < w1.heap.size := World.block_lt_of_cell? w1 ⟨Lg, 0, none⟩ h.laid.lg
  have hSw : S < w1.heap.size := World.block_lt_of_cell? w1 ⟨S, 0, none⟩ h.laid.s0
  refine ⟨⟨?_, ?_, ?_⟩, ⟨?_, ?_⟩, ⟨?_, ?_⟩, ⟨c3, c2⟩, fun q hq => ⟨?_, c1 q hq⟩, ?_⟩
  · rw [c4 6 (by omega) (by omega), hset _ _ (Ne.symm L1)]; exact h.laid.g6
  · obtain ⟨n1, n2, n3, n4⟩ := h.nS
    exact (World.cell?_of_block (hblk S hSw n3 n1 n2 n4)).trans h.laid.s0
  · rw [c5.cell (p := ⟨Lg, 0, none⟩) (by show Lg < w2.heap.size; omega) (by rintro (e | e | ⟨j, hj, e⟩); exact L1 e; exact L3 e; exact (L5 j hj).1 e), h2]
    exact World.cell?_setCell_same _ _ _ h.laid.lg
  · rw [c4 15 (by omega) (by omega), hset _ _ (Ne.symm L1)]; exact h.laid.g15
  · rcases h.laid.hW with e | ⟨M, e, hm⟩
    · exact Or.inl e
    · obtain ⟨n1, n2, n3, n4⟩ := h.nW M e
      exact Or.inr ⟨M, e, hm.of_block (hblk M hm.lt n3 n1 n2 n4)⟩
  · rw [c4 22 (by omega) (by omega), hset _ _ (Ne.symm L1)]; exact h.gA
  · rcases h.hA with e | ⟨M, e, hm⟩
    · exact Or.inl e
    · obtain ⟨n1, n2, n3, n4⟩ := h.nM M e
      exact Or.inr ⟨M, e, hm.of_block (hblk M hm.lt n3 n1 n2 n4)⟩
  · obtain ⟨n1, n2, n3, n4⟩ := h.nA
    exact (World.cell?_of_block (hblk As (World.block_lt_of_cell? w1 ⟨As, q, none⟩ (h.sl q hq)) n3 n1 n2 n4)).trans (h.sl q hq)
  · obtain ⟨o1, o2, o3, o4, o5⟩ := h0.old
    have k1 : Below B w w1 := hb.mono o5
    have k2 : Below B w1 w2 := by rw [h2]; exact (Below.refl _ w1).setCell (p := ⟨Lg, 0, none⟩) o3 _
    have k3 : Below B w2 w' := c5.below (by have := hb.size; omega) fun x _ e => by
      rcases e with e | e | ⟨j, hj, e⟩
      · omega
      · omega
      · have := o4 j hj
        omega
    exact (k1.trans k2).trans k3
end Go.Proofs.YbulkldcFmt
