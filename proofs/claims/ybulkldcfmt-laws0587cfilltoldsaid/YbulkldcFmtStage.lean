/-
  The stages of the law: the workers' loop, the applications' loop.
-/
import Derived.Test.YbulkldcFmtFill
import Derived.Test.YbulkldcFmtRos
namespace Go.Proofs.YbulkldcFmt
open Go.RowKit
set_option linter.unusedVariables false

def Stage1 (W0 : World) (G i : Nat) (wr : World) : Prop := ∃ mW fW LW VW PW, Ros wr G 13 i wk mW fW LW VW PW ∧ (∀ x, PW x → W0.heap.size ≤ x) ∧ (∀ q, q < i → W0.heap.size ≤ VW q ∧ VW q < wr.heap.size ∧ ¬ PW (VW q)) ∧ (0 < i → wr.cell? ⟨VW 0, 2, none⟩ = some (.string (rk 0))) ∧
  Keeps (fun x => x = G) W0 wr ∧ (∀ j, j ≠ 13 → j ≠ 14 → j ≠ 15 → wr.cell? ⟨G, j, none⟩ = W0.cell? ⟨G, j, none⟩) ∧ ∀ j, wr.frozen? ⟨G, j, none⟩ = false

theorem Keeps.andThen {S T : Nat → Prop} {a b c : World} (h : Keeps S a b) (k : Keeps T b c) (hT : ∀ x, x < a.heap.size → T x → S x) : Keeps S a c :=
  ⟨k.1.trans h.1, k.2.1.trans h.2.1, k.2.2.1.trans h.2.2.1, Nat.le_trans h.2.2.2.1 k.2.2.2.1, fun j hj hs => (k.2.2.2.2 j (Nat.lt_of_lt_of_le hj h.2.2.2.1) fun ht => hs (hT j hj ht)).trans (h.2.2.2.2 j hj hs)⟩
theorem keeps_none {S : Nat → Prop} {w w' : World} (h : Keeps (fun _ => False) w w') : Keeps S w w' := h.mono fun _ _ e => e.elim

theorem stage1_call {W0 wr wa : World} {G i v : Nat} (h : Stage1 W0 G i wr) (hi : i < 8) (hG : G < W0.heap.size) (hk : Keeps (fun _ => False) wr wa) (hv : wr.heap.size ≤ v) (hr : wa.cell? ⟨v, 2, none⟩ = some (.string (rk i))) :
    Calls Ybaf.prog 13 #[.pointer (some ⟨G, 13, none⟩), .string (wk i), .pointer (some ⟨v, 0, none⟩)] wa fun e w' => e = .returned (.tuple #[]) ∧ Stage1 W0 G (i + 1) w' := by
  obtain ⟨mW, fW, LW, VW, PW, hR, hP, hV, h0, hK, hC, hF⟩ := h
  have hGr : G < wr.heap.size := Nat.lt_of_lt_of_le hG hK.size
  have hRa : Ros wa G 13 i wk mW fW LW VW PW := hR.keeps hk (fun x _ e => e) fun j _ => hk.cell (p := ⟨G, j, none⟩) hGr fun e => e
  have hFa : ∀ j, wa.frozen? ⟨G, j, none⟩ = false := fun j => (hk.frozen (p := ⟨G, j, none⟩) hGr fun e => e).trans (hF j)
  have hvw : v < wa.heap.size := World.block_lt_of_cell? wa ⟨v, 2, none⟩ hr
  have hs1 := hK.size
  have hs2 := hk.size
  refine (ros_add_13 v hRa hi hFa).mono ?_
  rintro e w' ⟨rfl, m', f', L', P', hR', hP1, hP2, hk', hc', hf'⟩
  have hs3 := hk'.size
  have hPv : ¬ PW v := fun hx => by have := (hR.pb v hx).1; omega
  have hnew : ∀ x, x < wa.heap.size → P' x → PW x := fun x hx hp => by
    rcases hP2 x hp with h | h
    · exact h
    · omega
  refine ⟨rfl, m', f', L', _, P', hR', ?_, ?_, ?_, ?_, ?_, fun j => (hf' j).trans (hFa j)⟩
  · intro x hx
    rcases hP2 x hx with h | h
    · exact hP x h
    · omega
  · intro q hq
    by_cases e : q = i
    · subst e
      rw [upd_same]
      exact ⟨by omega, by omega, fun hx => hPv (hnew _ hvw hx)⟩
    · rw [upd_ne _ e]
      obtain ⟨h1, h2, h3⟩ := hV q (by omega)
      exact ⟨h1, by omega, fun hx => h3 (hnew _ (by omega) hx)⟩
  · intro _
    by_cases e : 0 = i
    · subst e
      rw [upd_same]
      rw [hk'.cell (p := ⟨v, 2, none⟩) hvw (by rintro (e | e); (have e' : v = G := e; omega); exact hPv e)]
      exact hr
    · rw [upd_ne _ e]
      obtain ⟨h1, h2, h3⟩ := hV 0 (by omega)
      rw [hk'.cell (p := ⟨VW 0, 2, none⟩) (by show VW 0 < wa.heap.size; omega) (by rintro (e | e); (have e' : VW 0 = G := e; omega); exact h3 e), hk.cell (p := ⟨VW 0, 2, none⟩) h2 fun e => e]
      exact h0 (by omega)
  · refine (hK.andThen hk fun x _ e => e.elim).andThen hk' fun x hx e => ?_
    rcases e with e | e
    · exact e
    · have := hP x e
      omega
  · intro j h1 h2 h3
    rw [hc' j h1 h2 h3, hk.cell (p := ⟨G, j, none⟩) hGr fun e => e]
    exact hC j h1 h2 h3

structure Dat where
  mA : Option Nat
  fA : ByteArray → Option Value
  LA : Nat → Nat
  PA : Nat → Prop
  mP : Option Nat
  fP : ByteArray → Option Value
  LP : Nat → Nat
  PP : Nat → Prop
  fi : ByteArray → Option Value

/-- The four blocks that the applications' loop turns. -/
structure Dist (W2 : World) (G O As Mi : Nat) : Prop where
  lG : G < W2.heap.size
  lO : O < W2.heap.size
  lA : As < W2.heap.size
  lM : Mi < W2.heap.size
  GO : G ≠ O
  GA : G ≠ As
  GM : G ≠ Mi
  OA : O ≠ As
  OM : O ≠ Mi
  AM : As ≠ Mi

structure St (W2 : World) (G O As Mi k : Nat) (V : Nat → Nat) (i iA iP iM : Nat) (d : Dat) (wr : World) : Prop where
  rA : Ros wr G 20 iA ak d.mA d.fA d.LA V d.PA
  rP : Ros wr O 5 iP ak d.mP d.fP d.LP V d.PP
  pA : ∀ x, d.PA x → W2.heap.size ≤ x ∧ ¬ d.PP x
  pP : ∀ x, d.PP x → W2.heap.size ≤ x
  v0 : ∀ q, q < i → W2.heap.size ≤ V q ∧ V q < wr.heap.size ∧ ¬ d.PA (V q) ∧ ¬ d.PP (V q)
  v5 : ∀ q, q < i → wr.cell? ⟨V q, 5, none⟩ = some (.int .u8 0) ∧ wr.frozen? ⟨V q, 5, none⟩ = false ∧ wr.cell? ⟨V q, 0, none⟩ = some (.string (ak q))
  vi : ∀ p q, p < i → q < i → V p = V q → p = q
  sl : ∀ q, q < i → wr.cell? ⟨As, q, none⟩ = some (ptr (V q))
  ax : ∀ q, q < k → ∃ u, wr.cell? ⟨As, q, none⟩ = some u
  af : ∀ j, wr.frozen? ⟨As, j, none⟩ = false
  mi : MapAt wr Mi iM d.fi
  fi : ∀ q, iM ≤ q → q < 8 → d.fi (ak q) = none
  gf : ∀ j, wr.frozen? ⟨G, j, none⟩ = false
  of : ∀ j, wr.frozen? ⟨O, j, none⟩ = false
  gc : ∀ j, j ≠ 20 → j ≠ 21 → j ≠ 22 → wr.cell? ⟨G, j, none⟩ = W2.cell? ⟨G, j, none⟩
  oc : ∀ j, j ≠ 5 → j ≠ 6 → j ≠ 7 → wr.cell? ⟨O, j, none⟩ = W2.cell? ⟨O, j, none⟩
  kp : Keeps (fun x => x = G ∨ x = O ∨ x = As ∨ x = Mi) W2 wr

theorem Ros.upd {w : World} {b o n : Nat} {key : Nat → ByteArray} {m : Option Nat} {f : ByteArray → Option Value} {L V : Nat → Nat} {P : Nat → Prop} (h : Ros w b o n key m f L V P) (v : Nat) : Ros w b o n key m f L (upd V n v) P :=
  { h with l0 := fun j hj => by rw [upd_ne V (by omega)]; exact h.l0 j hj }

/-- The new application, laid into the slice. -/
theorem st_box {W2 wr wz : World} {G O As Mi k i v : Nat} {V : Nat → Nat} {d : Dat} (hd : Dist W2 G O As Mi) (h : St W2 G O As Mi k V i i i i d wr) (hks : Keeps (fun x => x = As) wr wz) (hAs : wz.cell? ⟨As, i, none⟩ = some (ptr v)) (hAo : ∀ q, q ≠ i → wz.cell? ⟨As, q, none⟩ = wr.cell? ⟨As, q, none⟩) (hAf : ∀ j, wz.frozen? ⟨As, j, none⟩ = wr.frozen? ⟨As, j, none⟩)
    (hv : wr.heap.size ≤ v) (h5 : wz.cell? ⟨v, 5, none⟩ = some (.int .u8 0)) (hf : wz.frozen? ⟨v, 5, none⟩ = false) (h0 : wz.cell? ⟨v, 0, none⟩ = some (.string (ak i))) (hik : i < k) :
    St W2 G O As Mi k (upd V i v) (i + 1) i i i d wz := by
  have hs1 := h.kp.size
  have hs2 := hks.size
  have lG := hd.lG
  have lO := hd.lO
  have lA := hd.lA
  have lM := hd.lM
  have hvw : v < wz.heap.size := World.block_lt_of_cell? wz ⟨v, 5, none⟩ h5
  have hcs : ∀ b j, b < wr.heap.size → b ≠ As → wz.cell? ⟨b, j, none⟩ = wr.cell? ⟨b, j, none⟩ := fun b j hb hn => hks.cell (p := ⟨b, j, none⟩) hb hn
  have hfs : ∀ b j, b < wr.heap.size → b ≠ As → wz.frozen? ⟨b, j, none⟩ = wr.frozen? ⟨b, j, none⟩ := fun b j hb hn => hks.frozen (p := ⟨b, j, none⟩) hb hn
  have hPA : ∀ x, d.PA x → ¬ x = As := fun x hx e => by have := (h.pA x hx).1; omega
  have hPP : ∀ x, d.PP x → ¬ x = As := fun x hx e => by have := h.pP x hx; omega
  refine { rA := (h.rA.keeps hks hPA fun j _ => hcs G j (by omega) hd.GA).upd v, rP := (h.rP.keeps hks hPP fun j _ => hcs O j (by omega) hd.OA).upd v, pA := h.pA, pP := h.pP, v0 := ?_, v5 := ?_, vi := ?_, sl := ?_, ax := ?_, af := fun j => (hAf j).trans (h.af j), mi := ?_, fi := h.fi, gf := ?_, of := ?_, gc := ?_, oc := ?_, kp := ?_ }
  · intro q hq
    by_cases e : q = i
    · subst e
      rw [upd_same]
      exact ⟨by omega, hvw, fun hx => by have := (h.rA.pb v hx).1; omega, fun hx => by have := (h.rP.pb v hx).1; omega⟩
    · rw [upd_ne _ e]
      obtain ⟨h1, h2, h3, h4⟩ := h.v0 q (by omega)
      exact ⟨h1, by omega, h3, h4⟩
  · intro q hq
    by_cases e : q = i
    · subst e
      rw [upd_same]
      exact ⟨h5, hf, h0⟩
    · rw [upd_ne _ e]
      obtain ⟨h1, h2, h3, h4⟩ := h.v0 q (by omega)
      rw [hcs _ _ h2 (by omega), hcs _ _ h2 (by omega), hfs _ _ h2 (by omega)]
      exact h.v5 q (by omega)
  · intro p q hp hq e
    by_cases ep : p = i
    · by_cases eq : q = i
      · omega
      · subst ep
        rw [upd_same, upd_ne _ eq] at e
        have := (h.v0 q (by omega)).2.1
        omega
    · by_cases eq : q = i
      · subst eq
        rw [upd_same, upd_ne _ ep] at e
        have := (h.v0 p (by omega)).2.1
        omega
      · rw [upd_ne _ ep, upd_ne _ eq] at e
        exact h.vi p q (by omega) (by omega) e
  · intro q hq
    by_cases e : q = i
    · subst e
      rw [upd_same]
      exact hAs
    · rw [upd_ne _ e, hAo q e]
      exact h.sl q (by omega)
  · intro q hq
    by_cases e : q = i
    · subst e
      exact ⟨_, hAs⟩
    · obtain ⟨u', hu'⟩ := h.ax q hq
      exact ⟨u', (hAo q e).trans hu'⟩
  · exact h.mi.of_block (hks.2.2.2.2 Mi (by omega) (Ne.symm hd.AM))
  · intro j
    rw [hfs _ _ (by omega) hd.GA]
    exact h.gf j
  · intro j
    rw [hfs _ _ (by omega) hd.OA]
    exact h.of j
  · intro j h1 h2 h3
    rw [hcs _ _ (by omega) hd.GA]
    exact h.gc j h1 h2 h3
  · intro j h1 h2 h3
    rw [hcs _ _ (by omega) hd.OA]
    exact h.oc j h1 h2 h3
  · exact h.kp.andThen hks fun x _ e => Or.inr (Or.inr (Or.inl e))

/-- The same, at the world as the walk has it. -/
theorem st_laid {W2 wr : World} {G O As Mi k i : Nat} {V : Nat → Nat} {d : Dat} (hd : Dist W2 G O As Mi) (h : St W2 G O As Mi k V i i i i d wr) (hik : i < k) (cc : Array Value) (tt : TypeId) (s2 s3 s4 : ByteArray) (z : Int) :
    St W2 G O As Mi k (upd V i (wr.heap.size + 1)) (i + 1) i i i d (((wr.setCell ⟨As, i, none⟩ (.pointer (some ⟨wr.heap.size + 1, 0, none⟩))).alloc (.cells cc tt)).alloc (.cells #[.string (ak i), .string s2, .string s3, .string s4, .int .i64 z, .int .u8 0] 77)) := by
  have hAw : As < wr.heap.size := Nat.lt_of_lt_of_le hd.lA h.kp.size
  obtain ⟨u, hu⟩ := h.ax i hik
  have hset : ∀ q, (((wr.setCell ⟨As, i, none⟩ (.pointer (some ⟨wr.heap.size + 1, 0, none⟩))).alloc (.cells cc tt)).alloc (.cells #[.string (ak i), .string s2, .string s3, .string s4, .int .i64 z, .int .u8 0] 77)).cell? ⟨As, q, none⟩ = (wr.setCell ⟨As, i, none⟩ (.pointer (some ⟨wr.heap.size + 1, 0, none⟩))).cell? ⟨As, q, none⟩ := fun q => by
    rw [World.cell?_of_block (Below.heap_alloc _ _ _ (by simp; omega)), World.cell?_of_block (Below.heap_alloc _ _ _ (by simpa using hAw))]
  have hs : (wr.setCell ⟨As, i, none⟩ (.pointer (some ⟨wr.heap.size + 1, 0, none⟩))).heap.size = wr.heap.size := by simp
  refine st_box hd h (((Keeps.setCell (S := fun x => x = As) (Keeps.refl _ wr) (p := ⟨As, i, none⟩) rfl _).alloc _).alloc _) ?_ ?_ ?_ (by omega) ?_ ?_ ?_ hik
  · rw [hset]; exact World.cell?_setCell_same _ _ _ hu
  · intro q hq
    rw [hset, cell_set_ne (Or.inr (Ne.symm hq))]
  · intro j
    rw [World.frozen?_alloc_past _ _ _ (by simp; omega), World.frozen?_alloc_past _ _ _ (by simpa using hAw), World.frozen?_setCell]
  · go_simp
  · go_simp
  · go_simp

theorem upd_self (V : Nat → Nat) (i : Nat) : upd V i (V i) = V := by
  funext q
  unfold upd
  by_cases e : q = i
  · rw [if_pos e, e]
  · rw [if_neg e]

theorem st_addA {W2 wr : World} {G O As Mi k i iP iM : Nat} {V : Nat → Nat} {d : Dat} (hd : Dist W2 G O As Mi) (h : St W2 G O As Mi k V (i + 1) i iP iM d wr) (hi : i < 8) :
    Calls Ybaf.prog 17 #[.pointer (some ⟨G, 20, none⟩), .string (ak i), .pointer (some ⟨V i, 0, none⟩)] wr fun e w' => e = .returned (.tuple #[]) ∧ ∃ d', St W2 G O As Mi k V (i + 1) (i + 1) iP iM d' w' := by
  have hs1 := h.kp.size
  have lG := hd.lG
  have lO := hd.lO
  have lA := hd.lA
  have lM := hd.lM
  have hGO := hd.GO
  refine (ros_add_17 (V i) h.rA hi h.gf).mono ?_
  rintro e w' ⟨rfl, m', f', L', P', hR', hP1, hP2, hk', hc', hf'⟩
  rw [upd_self] at hR'
  have hs3 := hk'.size
  have hnew : ∀ x, x < wr.heap.size → P' x → d.PA x := fun x hx hp => by
    rcases hP2 x hp with h | h
    · exact h
    · omega
  have hpX : ∀ x, d.PA x → W2.heap.size ≤ x := fun x hx => (h.pA x hx).1
  have hkc : ∀ b j, b < wr.heap.size → b ≠ G → ¬ d.PA b → w'.cell? ⟨b, j, none⟩ = wr.cell? ⟨b, j, none⟩ := fun b j hb h1 h2 => hk'.cell (p := ⟨b, j, none⟩) hb (by rintro (e | e); exact h1 e; exact h2 e)
  have hkf : ∀ b j, b < wr.heap.size → b ≠ G → ¬ d.PA b → w'.frozen? ⟨b, j, none⟩ = wr.frozen? ⟨b, j, none⟩ := fun b j hb h1 h2 => hk'.frozen (p := ⟨b, j, none⟩) hb (by rintro (e | e); exact h1 e; exact h2 e)
  have hold : ∀ b, b < W2.heap.size → ¬ d.PA b := fun b hb hx => by have := hpX b hx; omega
  have hY : ∀ x, d.PP x → ¬ (x = G ∨ d.PA x) := fun x hx e => by
    rcases e with e | e
    · have := h.pP x hx
      omega
    · exact (h.pA x e).2 hx
  refine ⟨rfl, { d with mA := m', fA := f', LA := L', PA := P' }, { rA := hR', rP := h.rP.keeps hk' hY fun j _ => hkc O j (by omega) (by omega) (hold _ (by omega)), pA := ?_, pP := ?_, v0 := ?_, v5 := ?_, vi := h.vi, sl := ?_, ax := ?_, af := ?_, mi := ?_, fi := h.fi, gf := ?_, of := ?_, gc := ?_, oc := ?_, kp := ?_ }⟩
  · intro x hx
    rcases hP2 x hx with h1 | h1
    · exact h.pA x h1
    · exact ⟨by omega, fun h2 => by have := (h.rP.pb x h2).1; omega⟩
  · exact h.pP
  · intro q hq
    obtain ⟨h1, h2, h3, h4⟩ := h.v0 q hq
    exact ⟨h1, by omega, fun hx => h3 (hnew _ h2 hx), h4⟩
  · intro q hq
    obtain ⟨h1, h2, h3, h4⟩ := h.v0 q hq
    rw [hkc _ _ h2 (by omega) h3, hkc _ _ h2 (by omega) h3, hkf _ _ h2 (by omega) h3]
    exact h.v5 q hq
  · intro q hq
    rw [hkc _ _ (by omega) (Ne.symm hd.GA) (hold _ lA)]
    exact h.sl q hq
  · intro q hq
    rw [hkc _ _ (by omega) (Ne.symm hd.GA) (hold _ lA)]
    exact h.ax q hq
  · intro j
    rw [hkf _ _ (by omega) (Ne.symm hd.GA) (hold _ lA)]
    exact h.af j
  · exact h.mi.of_block (hk'.2.2.2.2 Mi (by omega) (by rintro (e | e); exact hd.GM e.symm; exact hold _ lM e))
  · intro j
    exact (hf' j).trans (h.gf j)
  · intro j
    rw [hkf _ _ (by omega) (by omega) (hold _ lO)]
    exact h.of j
  · intro j h1 h2 h3
    rw [hc' j h1 h2 h3]
    exact h.gc j h1 h2 h3
  · intro j h1 h2 h3
    rw [hkc _ _ (by omega) (by omega) (hold _ lO)]
    exact h.oc j h1 h2 h3
  · refine h.kp.andThen hk' fun x hx e => ?_
    rcases e with e | e
    · exact Or.inl e
    · exact absurd e (hold x hx)

theorem st_addP {W2 wr : World} {G O As Mi k i iA iM : Nat} {V : Nat → Nat} {d : Dat} (hd : Dist W2 G O As Mi) (h : St W2 G O As Mi k V (i + 1) iA i iM d wr) (hi : i < 8) :
    Calls Ybaf.prog 17 #[.pointer (some ⟨O, 5, none⟩), .string (ak i), .pointer (some ⟨V i, 0, none⟩)] wr fun e w' => e = .returned (.tuple #[]) ∧ ∃ d', St W2 G O As Mi k V (i + 1) iA (i + 1) iM d' w' := by
  have hs1 := h.kp.size
  have lG := hd.lG
  have lO := hd.lO
  have lA := hd.lA
  have lM := hd.lM
  have hGO := hd.GO
  refine (ros_add_17 (V i) h.rP hi h.of).mono ?_
  rintro e w' ⟨rfl, m', f', L', P', hR', hP1, hP2, hk', hc', hf'⟩
  rw [upd_self] at hR'
  have hs3 := hk'.size
  have hnew : ∀ x, x < wr.heap.size → P' x → d.PP x := fun x hx hp => by
    rcases hP2 x hp with h | h
    · exact h
    · omega
  have hpX : ∀ x, d.PP x → W2.heap.size ≤ x := fun x hx => h.pP x hx
  have hkc : ∀ b j, b < wr.heap.size → b ≠ O → ¬ d.PP b → w'.cell? ⟨b, j, none⟩ = wr.cell? ⟨b, j, none⟩ := fun b j hb h1 h2 => hk'.cell (p := ⟨b, j, none⟩) hb (by rintro (e | e); exact h1 e; exact h2 e)
  have hkf : ∀ b j, b < wr.heap.size → b ≠ O → ¬ d.PP b → w'.frozen? ⟨b, j, none⟩ = wr.frozen? ⟨b, j, none⟩ := fun b j hb h1 h2 => hk'.frozen (p := ⟨b, j, none⟩) hb (by rintro (e | e); exact h1 e; exact h2 e)
  have hold : ∀ b, b < W2.heap.size → ¬ d.PP b := fun b hb hx => by have := hpX b hx; omega
  have hY : ∀ x, d.PA x → ¬ (x = O ∨ d.PP x) := fun x hx e => by
    rcases e with e | e
    · have := (h.pA x hx).1
      omega
    · exact (h.pA x hx).2 e
  refine ⟨rfl, { d with mP := m', fP := f', LP := L', PP := P' }, { rP := hR', rA := h.rA.keeps hk' hY fun j _ => hkc G j (by omega) (by omega) (hold _ (by omega)), pA := ?_, pP := ?_, v0 := ?_, v5 := ?_, vi := h.vi, sl := ?_, ax := ?_, af := ?_, mi := ?_, fi := h.fi, gf := ?_, of := ?_, gc := ?_, oc := ?_, kp := ?_ }⟩
  · intro x hx
    refine ⟨(h.pA x hx).1, fun h2 => ?_⟩
    exact (h.pA x hx).2 (hnew x (h.rA.pb x hx).1 h2)
  · intro x hx
    rcases hP2 x hx with h1 | h1
    · exact h.pP x h1
    · omega
  · intro q hq
    obtain ⟨h1, h2, h3, h4⟩ := h.v0 q hq
    exact ⟨h1, by omega, h3, fun hx => h4 (hnew _ h2 hx)⟩
  · intro q hq
    obtain ⟨h1, h2, h3, h4⟩ := h.v0 q hq
    rw [hkc _ _ h2 (by omega) h4, hkc _ _ h2 (by omega) h4, hkf _ _ h2 (by omega) h4]
    exact h.v5 q hq
  · intro q hq
    rw [hkc _ _ (by omega) (Ne.symm hd.OA) (hold _ lA)]
    exact h.sl q hq
  · intro q hq
    rw [hkc _ _ (by omega) (Ne.symm hd.OA) (hold _ lA)]
    exact h.ax q hq
  · intro j
    rw [hkf _ _ (by omega) (Ne.symm hd.OA) (hold _ lA)]
    exact h.af j
  · exact h.mi.of_block (hk'.2.2.2.2 Mi (by omega) (by rintro (e | e); exact hd.OM e.symm; exact hold _ lM e))
  · intro j
    rw [hkf _ _ (by omega) (by omega) (hold _ lG)]
    exact h.gf j
  · intro j
    exact (hf' j).trans (h.of j)
  · intro j h1 h2 h3
    rw [hkc _ _ (by omega) (by omega) (hold _ lG)]
    exact h.gc j h1 h2 h3
  · intro j h1 h2 h3
    rw [hc' j h1 h2 h3]
    exact h.oc j h1 h2 h3
  · refine h.kp.andThen hk' fun x hx e => ?_
    rcases e with e | e
    · exact Or.inr (Or.inl e)
    · exact absurd e (hold x hx)

theorem st_ids {W2 wr w' : World} {G O As Mi k i : Nat} {V : Nat → Nat} {d : Dat} (hd : Dist W2 G O As Mi) (h : St W2 G O As Mi k V (i + 1) (i + 1) (i + 1) i d wr) (hi : i < 8) (hm : MapAt w' Mi (i + 1) (fput d.fi (ak i) (.bool true))) (hg : wr.grownBy w' (some Mi)) :
    St W2 G O As Mi k V (i + 1) (i + 1) (i + 1) (i + 1) { d with fi := fput d.fi (ak i) (.bool true) } w' := by
  have hs1 := h.kp.size
  have lG := hd.lG
  have lO := hd.lO
  have lA := hd.lA
  have lM := hd.lM
  have hk' : Keeps (fun x => x = Mi) wr w' := (Keeps.refl _ wr).grown hg fun x e => Or.inl (by injection e with e; exact e.symm)
  have hs3 := hk'.size
  have hkc : ∀ b j, b < wr.heap.size → b ≠ Mi → w'.cell? ⟨b, j, none⟩ = wr.cell? ⟨b, j, none⟩ := fun b j hb h1 => hk'.cell (p := ⟨b, j, none⟩) hb h1
  have hkf : ∀ b j, b < wr.heap.size → b ≠ Mi → w'.frozen? ⟨b, j, none⟩ = wr.frozen? ⟨b, j, none⟩ := fun b j hb h1 => hk'.frozen (p := ⟨b, j, none⟩) hb h1
  refine { rA := h.rA.keeps hk' (fun x hx e => by have := (h.pA x hx).1; omega) fun j _ => hkc G j (by omega) hd.GM, rP := h.rP.keeps hk' (fun x hx e => by have := h.pP x hx; omega) fun j _ => hkc O j (by omega) hd.OM, pA := h.pA, pP := h.pP, v0 := ?_, v5 := ?_, vi := h.vi, sl := ?_, ax := ?_, af := ?_, mi := hm, fi := ?_, gf := ?_, of := ?_, gc := ?_, oc := ?_, kp := ?_ }
  · intro q hq
    obtain ⟨h1, h2, h3, h4⟩ := h.v0 q hq
    exact ⟨h1, by omega, h3, h4⟩
  · intro q hq
    obtain ⟨h1, h2, h3, h4⟩ := h.v0 q hq
    rw [hkc _ _ h2 (by omega), hkc _ _ h2 (by omega), hkf _ _ h2 (by omega)]
    exact h.v5 q hq
  · intro q hq
    rw [hkc _ _ (by omega) hd.AM]
    exact h.sl q hq
  · intro q hq
    rw [hkc _ _ (by omega) hd.AM]
    exact h.ax q hq
  · intro j
    rw [hkf _ _ (by omega) hd.AM]
    exact h.af j
  · intro q hq h8
    show fput d.fi (ak i) (.bool true) (ak q) = none
    unfold fput
    rw [if_neg (fun e => by have := ak_inj h8 hi e; omega)]
    exact h.fi q (by omega) h8
  · intro j
    rw [hkf _ _ (by omega) hd.GM]
    exact h.gf j
  · intro j
    rw [hkf _ _ (by omega) hd.OM]
    exact h.of j
  · intro j h1 h2 h3
    rw [hkc _ _ (by omega) hd.GM]
    exact h.gc j h1 h2 h3
  · intro j h1 h2 h3
    rw [hkc _ _ (by omega) hd.OM]
    exact h.oc j h1 h2 h3
  · exact h.kp.andThen hk' fun x _ e => Or.inr (Or.inr (Or.inr e))
end Go.Proofs.YbulkldcFmt
