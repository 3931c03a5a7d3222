/-
  (*Groups).Fill over the one group, the one opening that the law lays.
-/
import Derived.Test.YbulkldcFmtAll
namespace Go.Proofs.YbulkldcFmt
open Go.RowKit Go.Extern.Stop Go.Stop Go.Extern
set_option linter.unusedVariables false

def kG : ByteArray := ⟨#[103]⟩
def kO : ByteArray := ⟨#[111, 49]⟩
def kC : ByteArray := ⟨#[99]⟩

/-- What the law lays, as Fill meets it. -/
structure Laid (w : World) (S G O Lg MB nB MO lO k n : Nat) (fB fO fP fW : ByteArray → Option Value) (L V : Nat → Nat) (mP mW : Option Nat) (mx : Int) (lead : Bool) (ld : ByteArray) (u0 u1 : Value) : Prop where
  s0 : w.cell? ⟨S, 0, none⟩ = some (.pointer (some ⟨Lg, 0, none⟩))
  s2 : w.cell? ⟨S, 2, none⟩ = some (.map (some MB))
  mB : MapAt w MB nB fB
  fBg : fB kG = some (ptr G)
  g0 : w.cell? ⟨G, 0, none⟩ = some (.string kG)
  g1 : w.cell? ⟨G, 1, none⟩ = some (.string kC)
  g2 : w.cell? ⟨G, 2, none⟩ = some (.int .i64 mx)
  g6 : w.cell? ⟨G, 6, none⟩ = some (.string ld)
  g15 : w.cell? ⟨G, 15, none⟩ = some (.map mW)
  hW : (mW = none ∧ n = 0) ∨ ∃ M, mW = some M ∧ MapAt w M n fW
  g16 : w.cell? ⟨G, 16, none⟩ = some (.slice none 0 0)
  g17 : w.cell? ⟨G, 17, none⟩ = some u0
  g18 : w.cell? ⟨G, 18, none⟩ = some u1
  g19 : w.cell? ⟨G, 19, none⟩ = some (.map (some MO))
  gf : ∀ j, w.frozen? ⟨G, j, none⟩ = false
  mO : MapAt w MO 1 fO
  fOo : fO kO = some (ptr lO)
  o0 : w.cell? ⟨lO, 0, none⟩ = some (ptr O)
  o1 : w.cell? ⟨lO, 1, none⟩ = some (.pointer none)
  o2 : w.cell? ⟨lO, 2, none⟩ = some (.pointer none)
  oid : w.cell? ⟨O, 0, none⟩ = some (.string kO)
  ole : w.cell? ⟨O, 1, none⟩ = some (.bool lead)
  op : w.cell? ⟨O, 7, none⟩ = some (.map mP)
  hP : (mP = none ∧ k = 0) ∨ ∃ M, mP = some M ∧ MapAt w M k fP
  fPs : ∀ j, j < k → fP (ak j) = some (ptr (L j))
  fPn : ∀ j, k ≤ j → j < 8 → fP (ak j) = none
  ch : Chain w O k L V
  hV : ∀ j, j < k → w.cell? ⟨V j, 5, none⟩ = some (.int .u8 0) ∧ w.frozen? ⟨V j, 5, none⟩ = false
  lg : w.cell? ⟨Lg, 0, none⟩ = some (.int .i64 0)
  lgf : w.frozen? ⟨Lg, 0, none⟩ = false

theorem below_cell {w w' : World} (h : Below w.heap.size w w') {a : Addr} {v : Value} (hc : w.cell? a = some v) : w'.cell? a = some v := (h.cell (World.block_lt_of_cell? w _ hc)).trans hc
theorem below_frozen {w w' : World} (h : Below w.heap.size w w') {a : Addr} {v : Value} (hc : w.cell? a = some v) (o : Nat) : w'.frozen? ⟨a.block, o, none⟩ = w.frozen? ⟨a.block, o, none⟩ := h.frozen (p := ⟨a.block, o, none⟩) (World.block_lt_of_cell? w a hc)
theorem below_map {w w' : World} (h : Below w.heap.size w w') {b n : Nat} {f : ByteArray → Option Value} (hm : MapAt w b n f) : MapAt w' b n f := hm.of_block (h.block b hm.lt)

theorem Laid.below {w w' : World} {S G O Lg MB nB MO lO k n : Nat} {fB fO fP fW : ByteArray → Option Value} {L V : Nat → Nat} {mP mW : Option Nat} {mx : Int} {lead : Bool} {ld : ByteArray} {u0 u1 : Value} (h : Laid w S G O Lg MB nB MO lO k n fB fO fP fW L V mP mW mx lead ld u0 u1) (hb : Below w.heap.size w w') :
    Laid w' S G O Lg MB nB MO lO k n fB fO fP fW L V mP mW mx lead ld u0 u1 :=
  { s0 := below_cell hb h.s0, s2 := below_cell hb h.s2, mB := below_map hb h.mB, fBg := h.fBg, g0 := below_cell hb h.g0, g1 := below_cell hb h.g1, g2 := below_cell hb h.g2, g6 := below_cell hb h.g6, g15 := below_cell hb h.g15,
    hW := by rcases h.hW with h1 | ⟨M, h1, h2⟩; exact Or.inl h1; exact Or.inr ⟨M, h1, below_map hb h2⟩,
    g16 := below_cell hb h.g16, g17 := below_cell hb h.g17, g18 := below_cell hb h.g18, g19 := below_cell hb h.g19, gf := fun j => (below_frozen hb h.g0 j).trans (h.gf j), mO := below_map hb h.mO, fOo := h.fOo,
    o0 := below_cell hb h.o0, o1 := below_cell hb h.o1, o2 := below_cell hb h.o2, oid := below_cell hb h.oid, ole := below_cell hb h.ole, op := below_cell hb h.op,
    hP := by rcases h.hP with h1 | ⟨M, h1, h2⟩; exact Or.inl h1; exact Or.inr ⟨M, h1, below_map hb h2⟩,
    fPs := h.fPs, fPn := h.fPn, ch := ⟨below_cell hb h.ch.1, fun i hi => ⟨below_cell hb (h.ch.2 i hi).1, below_cell hb (h.ch.2 i hi).2⟩⟩,
    hV := fun j hj => ⟨below_cell hb (h.hV j hj).1, (below_frozen hb (h.hV j hj).1 5).trans (h.hV j hj).2⟩, lg := below_cell hb h.lg, lgf := (below_frozen hb h.lg 0).trans h.lgf }

set_option maxHeartbeats 1000000 in
set_option maxRecDepth 100000 in
/-- Fill, the signature refused. -/
theorem fill_sign_bad (F : Interp) {S G O Lg MB nB MO lO k n : Nat} {fB fO fP fW : ByteArray → Option Value} {L V : Nat → Nat} {mP mW : Option Nat} {mx : Int} {lead : Bool} {ld : ByteArray} {u0 u1 : Value} (at0 : Int) (ws : Value) (by0 : ByteArray) (w : World) (hF : F.answers w.tape) (h : Laid w S G O Lg MB nB MO lO k n fB fO fP fW L V mP mW mx lead ld u0 u1)
    (hsg : Calls Ybaf.prog 28 #[.pointer (some ⟨G, 0, none⟩), .string by0, .bool lead] w (Bad w)) :
    Calls Ybaf.prog 19 #[.pointer (some ⟨S, 0, none⟩), .int .i64 at0, .string kG, .string kO, ws, .string by0] w (Bad w) := by
  have hfo := findOpening_any S MB nB G MO 1 lO O fB fO w kG kO (by show 1 ≤ maxLen; unfold maxLen; omega) (by show 2 ≤ maxLen; unfold maxLen; omega) h.s2 h.mB h.fBg h.g19 h.mO h.fOo h.o0
  have ole := h.ole
  have hn1 := errNil
  have hn2 := nilNil
  clear h
  unfold ptr at hfo
  go_enter Ybaf.func19, Ybaf.ntmps19
  go_wp2_with (first
    | (go_at_call 27; refine hfo.mono ?_; rintro e w' ⟨rfl, hw⟩; rw [hw]; clear hw w')
    | (go_at_call 28; refine hsg.mono ?_; rintro e w' ⟨⟨b, rfl⟩, hbel⟩; unfold ptr))
  go_ret
  exact ⟨⟨_, rfl⟩, hbel⟩

theorem makeHint (m : Int) (w : World) : (Instr.makeMap 41 (some (.int .i64 m))).run Ybaf.prog w = .ok (.map (some w.heap.size)) (w.alloc (.map #[] 0)) := by kernel_rfl
theorem Ybaf.info74 : (Ybaf.prog.info? 74).map (fun i => (i.zero, i.size, i.bytes)) = some (some (.pointer none), 1, 8) := by kernel_rfl

/-- The winners a list of pending ones, none twice, up to i. -/
def Fair (x : Nat → Nat) (k i : Nat) : Prop := ∀ a, a < i → x a < k ∧ ∀ b, b < a → x b ≠ x a

/-- One of the three counts refuses. -/
def CountBad (lead : Bool) (m n : Nat) (mx : Int) (ld : ByteArray) : Prop := (lead = true ∧ 1 < m) ∨ (lead = true ∧ m = 1 ∧ ld ≠ ⟨#[]⟩) ∨ wrap64 (mx - n) < m

/-- What Fill leaves, the signature taken. -/
def FillPost (x : Nat → Nat) (k m n Lg G MO : Nat) (V : Nat → Nat) (fO : ByteArray → Option Value) (lead : Bool) (mx at0 : Int) (ld : ByteArray) (w : World) (e : Ending) (w' : World) : Prop := (¬ Fair x k m → Bad w e w') ∧ (Fair x k m → CountBad lead m n mx ld → Bad w e w') ∧ (Fair x k m → ¬ CountBad lead m n mx ld → at0 < 0 → Bad w e w') ∧ (Fair x k m → ¬ CountBad lead m n mx ld → 0 ≤ at0 → m = 0 → e = .returned .nilIface ∧ ∃ w1 w2, Below w.heap.size w w1 ∧ w2 = w1.setCell ⟨Lg, 0, none⟩ (.int .i64 at0) ∧ Closed G MO 0 k V fO kO w2 w')

set_option maxHeartbeats 2000000 in
set_option maxRecDepth 100000 in
/-- Fill, the signature taken. -/
theorem fill_main (F : Interp) {S G O Lg MB nB MO lO k n : Nat} {fB fO fP fW : ByteArray → Option Value} {L V : Nat → Nat} {mP mW : Option Nat} {mx : Int} {lead : Bool} {ld : ByteArray} {u0 u1 : Value} (at0 : Int) (wb m c : Nat) (x : Nat → Nat) (by0 : ByteArray) (w : World) (hF : F.answers w.tape) (h : Laid w S G O Lg MB nB MO lO k n fB fO fP fW L V mP mW mx lead ld u0 u1)
    (hm : m ≤ 1024) (hn4 : n ≤ 4) (hmx1 : -9223372036854775808 ≤ mx) (hmx2 : mx ≤ 9223372036854775807) (hws : ∀ i, i < m → w.cell? ⟨wb, i, none⟩ = some (.string (ak (x i)))) (hx : ∀ i, i < m → x i < 8) (hsg : Calls Ybaf.prog 28 #[.pointer (some ⟨G, 0, none⟩), .string by0, .bool lead] w fun e w' => e = .returned .nilIface ∧ Below w.heap.size w w')
    (hld : ld = ⟨#[]⟩ ∨ ld = ⟨#[119, 48]⟩) (hh : m = 0 ∨ at0 < 0 ∨ ¬ Fair x k m ∨ CountBad lead m n mx ld)
    (hVi : ∀ i j, i < k → j < k → V i = V j → i = j) (hLi : ∀ i j, i < k → j < k → L i = L j → i = j) (hVL : ∀ i j, i < k → j < k → L i ≠ V j) (hVO : ∀ j, j < k → O ≠ V j) (hVG : ∀ j, j < k → G ≠ V j) (hVM : ∀ j, j < k → MO ≠ V j) (hVl : ∀ j, j < k → lO ≠ V j) (hGl : G ≠ lO) (hLg : Lg ≠ G ∧ Lg ≠ O ∧ Lg ≠ MO ∧ Lg ≠ lO ∧ (∀ j, j < k → Lg ≠ V j ∧ Lg ≠ L j)) :
    Calls Ybaf.prog 19 #[.pointer (some ⟨S, 0, none⟩), .int .i64 at0, .string kG, .string kO, .slice (some ⟨wb, 0, none⟩) m c, .string by0] w (FillPost x k m n Lg G MO V fO lead mx at0 ld w) := by
  have hfo := findOpening_any S MB nB G MO 1 lO O fB fO w kG kO (by show 1 ≤ maxLen; unfold maxLen; omega) (by show 2 ≤ maxLen; unfold maxLen; omega) h.s2 h.mB h.fBg h.g19 h.mO h.fOo h.o0
  obtain ⟨i0, hi, hz0, hz1, hz2⟩ := info_parts Ybaf.info74
  have ole := h.ole
  have hn1 := errNil
  have hn2 := nilNil
  have hmh := makeHint
  have H := hide h
  have HWS := hide hws
  have HX := hide hx
  have HH := hide hh
  have HLD := hide hld
  have HD1 := hide hVi
  have HD2 := hide hLi
  have HD3 := hide hVL
  have HD4 := hide hVO
  have HD5 := hide hVG
  have HD6 := hide hVM
  have HD7 := hide hVl
  have HD8 := hide hGl
  have HD9 := hide hLg
  clear h hws hx hh hld hVi hLi hVL hVO hVG hVM hVl hGl hLg
  unfold ptr at hfo
  go_enter Ybaf.func19, Ybaf.ntmps19
  go_wp2_with (first
    | (go_at_call 27; refine hfo.mono ?_; rintro e w' ⟨rfl, hw⟩; rw [hw]; clear hw w')
    | (go_at_call 28; refine hsg.mono ?_; rintro e w1 ⟨rfl, hbel⟩)
    | (at_make; refine wpList_make_full _ rfl _ _ 73 rfl w1.heap.size 74 i0 (.pointer none) 1 Ybaf.underlying73 hi hz0 hz1 _ _ _ _ m rfl rfl rfl rfl (by rw [hz2]; omega) (by unfold maxLen; omega) (Nat.le_refl _) ?_; intro w2 hown hgrow))
  have e0 : (madeCells (Value.pointer none).cells (m * 1)).toList = List.replicate m (Value.pointer none) := by rw [Nat.mul_one]; exact toList_madeCells_one _ _
  rw [e0] at hown
  clear e0
  have hb2 : Below w.heap.size w w2 := hbel.grown hgrow hbel.size (by simp)
  have hlt2 : w1.heap.size < w2.heap.size := (hown.lt _ rfl).2
  have hle1 : w.heap.size ≤ w1.heap.size := hbel.size
  go_loopw [57] (fun p wr => ∃ (i : Nat) (xs : List Value) (fw : ByteArray → Option Value), i ≤ m ∧ p = .int .i64 i ∧ Fair x k i ∧ xs.length = m ∧ wr.ownsRow w1.heap.size 74 1 (.slice (some ⟨w1.heap.size, 0, none⟩) m m) m xs ∧ MapAt wr w2.heap.size i fw ∧ (∀ j, j < 8 → ((∃ a, a < i ∧ x a = j) → fw (ak j) = some (.bool true)) ∧ ((∀ a, a < i → x a ≠ j) → fw (ak j) = none)) ∧ Below w.heap.size w wr) (fun p _ => m - (intOf p).toNat)
  case atStart => exact ⟨0, _, _, Nat.zero_le _, rfl, fun a ha => absurd ha (by omega), by simp, hown.alloc _, mapAt_made w2, fun j _ => ⟨fun ⟨a, ha, _⟩ => absurd ha (by omega), fun _ => rfl⟩, hb2.alloc hb2.size _⟩
  case round =>
    clear hown hgrow hb2
    obtain ⟨i, xs, fw, him, rfl, hfair, hxl, hrow, hwon, hfw, hbr⟩ := hrel
    by_cases hlt : i < m
    · have hq8 := HX.out i hlt
      have HL := hide (H.out.below hbr)
      have hwc := below_cell hbr (HWS.out i hlt)
      obtain ⟨q, hq⟩ : ∃ q, q = x i := ⟨_, rfl⟩
      rw [← hq] at hq8 hwc
      have HQ := hide hq
      clear hq
      have b1 : (i : Int) < (m : Int) := by omega
      by_cases hqk : q < k
      · have hget : Calls Ybaf.prog 29 #[.pointer (some ⟨O, 5, none⟩), .string (ak q)] wr fun e w' => e = .returned (.tuple #[.pointer (some ⟨V q, 0, none⟩), .bool true]) ∧ w' = wr := by
          rcases HL.out.hP with ⟨_, h0⟩ | ⟨M, hM, hmp⟩
          · omega
          · have hop := HL.out.op
            rw [hM] at hop
            exact get_29 O 5 M k fP wr (ak q) (size_ak q) hop hmp (L q) (V q) (HL.out.fPs q hqk) (HL.out.ch.2 q hqk).1
        have hlook := (hwon.look Ybaf.underlying41 (z := .bool false) (by kernel_rfl) (size_ak q)).2
        by_cases hdup : ∃ a, a < i ∧ x a = q
        · have hnf : ¬ Fair x k m := fun hfa => by obtain ⟨a, ha, hxa⟩ := hdup; exact (hfa i hlt).2 a ha (by rw [hxa]; exact HQ.out)
          rw [(hfw q hq8).1 hdup] at hlook
          simp only [Option.getD_some] at hlook
          have hFr : F.answers wr.tape := by rw [hbr.tape]; exact hF
          go_wp2_with (first
            | (go_at_call 29; refine hget.mono ?_; rintro e w' ⟨rfl, hw⟩; rw [hw]; clear hw w')
            | (go_at_call 24; refine (errD F (ak q) wr.heap.size _ (by exact hFr) (by go_simp)).mono ?_; intro e w' hne; obtain ⟨b, rfl, hbel2⟩ := newErr_bad hne ((Below.refl _ wr).alloc (Nat.le_refl _) _)))
          go_ret
          exact ⟨fun _ => ⟨⟨_, rfl⟩, hbr.trans (hbel2.mono hbr.size)⟩, fun h => absurd h hnf, fun h => absurd h hnf, fun h => absurd h hnf⟩
        · have hnd : ∀ a, a < i → x a ≠ q := fun a ha e => hdup ⟨a, ha, e⟩
          have hfq := (hfw q hq8).2 hnd
          rw [hfq] at hlook
          simp only [Option.getD_none] at hlook
          obtain ⟨hc0, hf0⟩ : (∃ u, wr.cell? ⟨w1.heap.size, i, none⟩ = some u) ∧ wr.frozen? ⟨w1.heap.size, i, none⟩ = false := ⟨by rw [hrow.cellAt i (by omega)]; exact ⟨_, List.getElem?_eq_getElem (by omega)⟩, hrow.frozenAt i⟩
          obtain ⟨u, hc0⟩ := hc0
          have hb1w : w1.heap.size < wr.heap.size := (hrow.lt _ rfl).2
          have hwonS : MapAt (wr.setCell ⟨w1.heap.size, i, none⟩ (.pointer (some ⟨V q, 0, none⟩))) w2.heap.size i fw := hwon.of_block (Below.heap_setCell _ _ _ _ (by show w2.heap.size ≠ w1.heap.size; omega))
          go_wp2_with (first
            | (go_at_call 29; refine hget.mono ?_; rintro e w' ⟨rfl, hw⟩; rw [hw]; clear hw w')
            | (at_mapUpdate; refine wpList_mapStore rfl _ _ _ 41 rfl 4 Ybaf.underlying41 w2.heap.size i fw (ak q) (.bool true) rfl rfl rfl hwonS (size_ak q) hfq (by unfold maxLen; omega) ?_; intro w3 hm3 hg3))
          go_roundw
          case rel =>
            have hrS := (World.ownsRow.stored hrow i (.pointer (some ⟨V q, 0, none⟩))).1
            have hrK := World.ownsRow.kept hrS hg3 (Or.inr (by intro e; injection e with e; have e' : w1.heap.size = w2.heap.size := e; omega))
            refine ⟨i + 1, _, _, by omega, rfl, fun a ha => ?_, by simpa using hxl, hrK, hm3, fun j hj => ?_, ?_⟩
            · by_cases e : a = i
              · subst e; rw [← HQ.out]; exact ⟨hqk, fun b hb => hnd b hb⟩
              · exact hfair a (by omega)
            · unfold fput
              by_cases e : j = q
              · subst e
                rw [if_pos rfl]
                exact ⟨fun _ => rfl, fun h => absurd HQ.out.symm (h i (by omega))⟩
              · rw [if_neg (fun h => e (ak_inj hj hq8 h))]
                refine ⟨fun ⟨a, ha, hxa⟩ => (hfw j hj).1 ⟨a, ?_, hxa⟩, fun h => (hfw j hj).2 fun a ha => h a (by omega)⟩
                by_cases e2 : a = i
                · subst e2; rw [← HQ.out] at hxa; exact absurd hxa.symm e
                · omega
            · exact ((hbr.setCell (p := ⟨w1.heap.size, i, none⟩) hle1 _).grown hg3 (by simpa using hbr.size) (fun r e => by injection e with e; rw [← e]; omega))
          case measure => simp [intOf]; omega
      · have hnf : ¬ Fair x k m := fun hfa => hqk (by have := (hfa i hlt).1; rw [← HQ.out] at this; exact this)
        have hget : Calls Ybaf.prog 29 #[.pointer (some ⟨O, 5, none⟩), .string (ak q)] wr fun e w' => e = .returned (.tuple #[.pointer none, .bool false]) ∧ w' = wr := by
          have hop := HL.out.op
          rcases HL.out.hP with ⟨hM, _⟩ | ⟨M, hM, hmp⟩
          · rw [hM] at hop
            exact none_29 O 5 wr (ak q) hop
          · rw [hM] at hop
            exact miss_29 O 5 M k fP wr (ak q) (size_ak q) hop hmp (HL.out.fPn q (by omega) hq8)
        have hFr : F.answers wr.tape := by rw [hbr.tape]; exact hF
        go_wp2_with (first
          | (go_at_call 29; refine hget.mono ?_; rintro e w' ⟨rfl, hw⟩; rw [hw]; clear hw w')
          | (go_at_call 24; refine (errC F (ak q) kO wr.heap.size _ (by exact hFr) (by go_simp) (by go_simp)).mono ?_; intro e w' hne; obtain ⟨b, rfl, hbel2⟩ := newErr_bad hne ((Below.refl _ wr).alloc (Nat.le_refl _) _)))
        go_ret
        exact ⟨fun _ => ⟨⟨_, rfl⟩, hbr.trans (hbel2.mono hbr.size)⟩, fun h => absurd h hnf, fun h => absurd h hnf, fun h => absurd h hnf⟩
    · obtain rfl : i = m := by omega
      have HL := H.out.below hbr
      have hse := serving_any G n mW fW at0 wr HL.g15 HL.hW HL.g16 (by omega)
      have HLh := hide HL
      clear HL
      go_wp2_with fail
      refine hse.mono ?_
      rintro e ws ⟨rfl, hbs⟩
      have hbw : Below w.heap.size w ws := hbr.trans (hbs.mono hbr.size)
      have HW := hide (H.out.below hbw)
      have le1 := HW.out.ole
      have gg2 := HW.out.g2
      have gg6 := HW.out.g6
      have ss0 := HW.out.s0
      have hFs : F.answers ws.tape := by rw [hbw.tape]; exact hF
      by_cases hlead : lead = true
      · subst hlead
        by_cases h1 : 1 < i
        · have b1 : (1 : Int) < (i : Int) := by omega
          have hc : CountBad true i n mx ld := Or.inl ⟨rfl, h1⟩
          go_wp2_with (go_at_call 24; refine (errE F i ws.heap.size _ (by exact hFs) (by go_simp)).mono ?_; intro e w' hne; obtain ⟨b, rfl, hbel2⟩ := newErr_bad hne ((Below.refl _ ws).alloc (Nat.le_refl _) _))
          go_ret
          exact ⟨fun h => absurd hfair h, fun _ _ => ⟨⟨_, rfl⟩, hbw.trans (hbel2.mono hbw.size)⟩, fun _ h => absurd hc h, fun _ h => absurd hc h⟩
        · by_cases h2 : i = 1
          · subst h2
            rcases HLD.out with rfl | rfl
            · by_cases hcb : wrap64 (mx - n) < 1
              · have hc : CountBad true 1 n mx ⟨#[]⟩ := Or.inr (Or.inr hcb)
                go_wp2_with (go_at_call 24; refine (errG F n 1 mx ws.heap.size _ (by exact hFs) (by go_simp) (by go_simp) (by go_simp)).mono ?_; intro e w' hne; obtain ⟨b, rfl, hbel2⟩ := newErr_bad hne ((Below.refl _ ws).alloc (Nat.le_refl _) _))
                go_ret
                exact ⟨fun h => absurd hfair h, fun _ _ => ⟨⟨_, rfl⟩, hbw.trans (hbel2.mono hbw.size)⟩, fun _ h => absurd hc h, fun _ h => absurd hc h⟩
              · have hc : ¬ CountBad true 1 n mx ⟨#[]⟩ := by rintro (⟨_, e⟩ | ⟨_, _, e⟩ | e); omega; exact e rfl; exact hcb e
                have hcb' : (1 : Int) ≤ wrap64 (mx - n) := by omega
                have HC := hide hc
                clear hc hcb
                have hneg : at0 < 0 := by
                  rcases HH.out with h | h | h | h
                  · omega
                  · omega
                  · exact absurd hfair h
                  · exact absurd h HC.out
                go_wp2_with (go_at_call 32; refine (advance_bad F Lg at0 ws hFs HW.out.lg hneg).mono ?_; rintro e w' ⟨⟨b, rfl⟩, hbel2⟩; unfold ptr)
                go_ret
                exact ⟨fun h => absurd hfair h, fun _ h => absurd h HC.out, fun _ _ _ => ⟨⟨_, rfl⟩, hbw.trans (hbel2.mono hbw.size)⟩, fun _ _ h => absurd h (by omega)⟩
            · have hc : CountBad true 1 n mx ⟨#[119, 48]⟩ := Or.inr (Or.inl ⟨rfl, rfl, fun e => by injection e with e; injection e with e; cases e⟩)
              go_wp2_with (go_at_call 31; refine (seatTaken_any F G kG ⟨#[119, 48]⟩ ws hFs HW.out.g0 HW.out.g6).mono ?_; rintro e w' ⟨⟨b, rfl⟩, hbel2⟩; unfold ptr)
              go_ret
              exact ⟨fun h => absurd hfair h, fun _ _ => ⟨⟨_, rfl⟩, hbw.trans (hbel2.mono hbw.size)⟩, fun _ h => absurd hc h, fun _ h => absurd hc h⟩
          · obtain rfl : i = 0 := by omega
            by_cases hcb : wrap64 (mx - n) < 0
            · have hc : CountBad true 0 n mx ld := Or.inr (Or.inr hcb)
              go_wp2_with (go_at_call 24; refine (errG F n 0 mx ws.heap.size _ (by exact hFs) (by go_simp) (by go_simp) (by go_simp)).mono ?_; intro e w' hne; obtain ⟨b, rfl, hbel2⟩ := newErr_bad hne ((Below.refl _ ws).alloc (Nat.le_refl _) _))
              go_ret
              exact ⟨fun h => absurd hfair h, fun _ _ => ⟨⟨_, rfl⟩, hbw.trans (hbel2.mono hbw.size)⟩, fun _ h => absurd hc h, fun _ h => absurd hc h⟩
            · have hc : ¬ CountBad true 0 n mx ld := by rintro (⟨_, e⟩ | ⟨_, e, _⟩ | e); omega; omega; exact hcb e
              have hcb' : (0 : Int) ≤ wrap64 (mx - n) := by omega
              have HC := hide hc
              clear hc hcb
              by_cases hneg : at0 < 0
              · go_wp2_with (go_at_call 32; refine (advance_bad F Lg at0 ws hFs HW.out.lg hneg).mono ?_; rintro e w' ⟨⟨b, rfl⟩, hbel2⟩; unfold ptr)
                go_ret
                exact ⟨fun h => absurd hfair h, fun _ h => absurd h HC.out, fun _ _ _ => ⟨⟨_, rfl⟩, hbw.trans (hbel2.mono hbw.size)⟩, fun _ _ h => absurd h (by omega)⟩
              · have hpos : 0 ≤ at0 := by omega
                have hcl : Calls Ybaf.prog 38 #[.pointer (some ⟨G, 0, none⟩), .pointer (some ⟨O, 0, none⟩), .int .u8 1] (ws.setCell ⟨Lg, 0, none⟩ (.int .i64 at0)) fun e w' => e = .returned (.tuple #[]) ∧ Closed G MO 0 k V fO kO (ws.setCell ⟨Lg, 0, none⟩ (.int .i64 at0)) w' := by
                  have hb := HW.out
                  obtain ⟨d1, d2, d3, d4, d5⟩ := HD9.out
                  refine close_any G O MO 0 lO k L V fO kO u0 u1 _ (by show 2 ≤ maxLen; unfold maxLen; omega) ⟨?_, fun j hj => ⟨?_, ?_⟩⟩ ?_ (fun j hj => ⟨?_, ?_⟩) HD1.out HD2.out HD3.out HD4.out HD5.out HD6.out HD7.out ?_ ?_ ?_ ?_ hb.fOo ?_ ?_ ?_ HD8.out
                  · rw [cell_set_ne (Or.inl d2)]; exact hb.ch.1
                  · rw [cell_set_ne (Or.inl (d5 j hj).2)]; exact (hb.ch.2 j hj).1
                  · rw [cell_set_ne (Or.inl (d5 j hj).2)]; exact (hb.ch.2 j hj).2
                  · rw [cell_set_ne (Or.inl d2)]; exact hb.oid
                  · rw [cell_set_ne (Or.inl (d5 j hj).1)]; exact (hb.hV j hj).1
                  · rw [World.frozen?_setCell]; exact (hb.hV j hj).2
                  · rw [cell_set_ne (Or.inl d1)]; exact hb.g17
                  · rw [cell_set_ne (Or.inl d1)]; exact hb.g18
                  · rw [cell_set_ne (Or.inl d1)]; exact hb.g19
                  · exact hb.mO.of_block (Below.heap_setCell _ _ _ _ (by show MO ≠ Lg; exact fun e => d3 e.symm))
                  · rw [cell_set_ne (Or.inl d4)]; exact hb.o1
                  · rw [cell_set_ne (Or.inl d4)]; exact hb.o2
                  · intro j; rw [World.frozen?_setCell]; exact hb.gf j
                have hde := depart_any G at0 (ws.setCell ⟨Lg, 0, none⟩ (.int .i64 at0)) (by rw [cell_set_ne (Or.inl HD9.out.1)]; exact HW.out.g16)
                go_wp2_with (first
                  | (go_at_call 32; refine (advance_ok Lg at0 ws HW.out.lg HW.out.lgf hpos).mono ?_; rintro e w' ⟨rfl, hw⟩; rw [hw]; clear hw w')
                  | (go_at_call 33; refine hde.mono ?_; rintro e w' ⟨rfl, hw⟩; rw [hw]; clear hw w'))
                obtain ⟨w5, hw5⟩ : ∃ w5, w5 = ws.setCell ⟨Lg, 0, none⟩ (.int .i64 at0) := ⟨_, rfl⟩
                rw [← hw5] at hcl ⊢
                have HW5 := hide hw5
                clear hw5 hde hrow hwon hse hsg
                go_loopw [171] (fun p wz => p = .int .i64 0 ∧ wz = w5) (fun _ _ => 0)
                case atStart => exact ⟨rfl, rfl⟩
                case round =>
                  obtain ⟨rfl, hwz⟩ := hrel
                  rw [hwz]
                  clear hwz
                  go_wp2_with (go_at_call 38; refine hcl.mono ?_; rintro e w' ⟨rfl, hclo⟩)
                  go_ret
                  exact ⟨fun h => absurd hfair h, fun _ h => absurd h HC.out, fun _ _ h => absurd h (by omega), fun _ _ _ _ => ⟨rfl, ws, w5, hbw, HW5.out, hclo⟩⟩
      · obtain rfl : lead = false := by simpa using hlead
        clear hlead
        by_cases hcb : wrap64 (mx - n) < i
        · have hc : CountBad false i n mx ld := Or.inr (Or.inr hcb)
          go_wp2_with (go_at_call 24; refine (errG F n i mx ws.heap.size _ (by exact hFs) (by go_simp) (by go_simp) (by go_simp)).mono ?_; intro e w' hne; obtain ⟨b, rfl, hbel2⟩ := newErr_bad hne ((Below.refl _ ws).alloc (Nat.le_refl _) _))
          go_ret
          exact ⟨fun h => absurd hfair h, fun _ _ => ⟨⟨_, rfl⟩, hbw.trans (hbel2.mono hbw.size)⟩, fun _ h => absurd hc h, fun _ h => absurd hc h⟩
        · have hc : ¬ CountBad false i n mx ld := by rintro (⟨e, _⟩ | ⟨e, _⟩ | e); cases e; cases e; exact hcb e
          have hcb' : (i : Int) ≤ wrap64 (mx - n) := by omega
          have HC := hide hc
          clear hc hcb
          by_cases hneg : at0 < 0
          · go_wp2_with (go_at_call 32; refine (advance_bad F Lg at0 ws hFs HW.out.lg hneg).mono ?_; rintro e w' ⟨⟨b, rfl⟩, hbel2⟩; unfold ptr)
            go_ret
            exact ⟨fun h => absurd hfair h, fun _ h => absurd h HC.out, fun _ _ _ => ⟨⟨_, rfl⟩, hbw.trans (hbel2.mono hbw.size)⟩, fun _ _ h => absurd h (by omega)⟩
          · have hpos : 0 ≤ at0 := by omega
            have hi0 : i = 0 := by
              rcases HH.out with h | h | h | h
              · exact h
              · omega
              · exact absurd hfair h
              · exact absurd h HC.out
            subst hi0
            have hcl : Calls Ybaf.prog 38 #[.pointer (some ⟨G, 0, none⟩), .pointer (some ⟨O, 0, none⟩), .int .u8 1] (ws.setCell ⟨Lg, 0, none⟩ (.int .i64 at0)) fun e w' => e = .returned (.tuple #[]) ∧ Closed G MO 0 k V fO kO (ws.setCell ⟨Lg, 0, none⟩ (.int .i64 at0)) w' := by
              have hb := HW.out
              obtain ⟨d1, d2, d3, d4, d5⟩ := HD9.out
              refine close_any G O MO 0 lO k L V fO kO u0 u1 _ (by show 2 ≤ maxLen; unfold maxLen; omega) ⟨?_, fun j hj => ⟨?_, ?_⟩⟩ ?_ (fun j hj => ⟨?_, ?_⟩) HD1.out HD2.out HD3.out HD4.out HD5.out HD6.out HD7.out ?_ ?_ ?_ ?_ hb.fOo ?_ ?_ ?_ HD8.out
              · rw [cell_set_ne (Or.inl d2)]; exact hb.ch.1
              · rw [cell_set_ne (Or.inl (d5 j hj).2)]; exact (hb.ch.2 j hj).1
              · rw [cell_set_ne (Or.inl (d5 j hj).2)]; exact (hb.ch.2 j hj).2
              · rw [cell_set_ne (Or.inl d2)]; exact hb.oid
              · rw [cell_set_ne (Or.inl (d5 j hj).1)]; exact (hb.hV j hj).1
              · rw [World.frozen?_setCell]; exact (hb.hV j hj).2
              · rw [cell_set_ne (Or.inl d1)]; exact hb.g17
              · rw [cell_set_ne (Or.inl d1)]; exact hb.g18
              · rw [cell_set_ne (Or.inl d1)]; exact hb.g19
              · exact hb.mO.of_block (Below.heap_setCell _ _ _ _ (by show MO ≠ Lg; exact fun e => d3 e.symm))
              · rw [cell_set_ne (Or.inl d4)]; exact hb.o1
              · rw [cell_set_ne (Or.inl d4)]; exact hb.o2
              · intro j; rw [World.frozen?_setCell]; exact hb.gf j
            have hde := depart_any G at0 (ws.setCell ⟨Lg, 0, none⟩ (.int .i64 at0)) (by rw [cell_set_ne (Or.inl HD9.out.1)]; exact HW.out.g16)
            go_wp2_with (first
              | (go_at_call 32; refine (advance_ok Lg at0 ws HW.out.lg HW.out.lgf hpos).mono ?_; rintro e w' ⟨rfl, hw⟩; rw [hw]; clear hw w')
              | (go_at_call 33; refine hde.mono ?_; rintro e w' ⟨rfl, hw⟩; rw [hw]; clear hw w'))
            obtain ⟨w5, hw5⟩ : ∃ w5, w5 = ws.setCell ⟨Lg, 0, none⟩ (.int .i64 at0) := ⟨_, rfl⟩
            rw [← hw5] at hcl ⊢
            have HW5 := hide hw5
            clear hw5 hde hrow hwon hse hsg
            go_loopw [171] (fun p wz => p = .int .i64 0 ∧ wz = w5) (fun _ _ => 0)
            case atStart => exact ⟨rfl, rfl⟩
            case round =>
              obtain ⟨rfl, hwz⟩ := hrel
              rw [hwz]
              clear hwz
              go_wp2_with (go_at_call 38; refine hcl.mono ?_; rintro e w' ⟨rfl, hclo⟩)
              go_ret
              exact ⟨fun h => absurd hfair h, fun _ h => absurd h HC.out, fun _ _ h => absurd h (by omega), fun _ _ _ _ => ⟨rfl, ws, w5, hbw, HW5.out, hclo⟩⟩
end Go.Proofs.YbulkldcFmt
