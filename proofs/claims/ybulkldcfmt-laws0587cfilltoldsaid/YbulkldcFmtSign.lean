/-
  Fill as the law calls it.
-/
import Derived.Test.YbulkldcFmtBase
namespace Go.Proofs.YbulkldcFmt
open Go.RowKit Go.Extern.Stop Go.Stop Go.Extern
set_option linter.unusedVariables false

def bk (i : Nat) : ByteArray := if i = 0 then ⟨#[99]⟩ else if i = 1 then ⟨#[114, 48]⟩ else ⟨#[120]⟩
def signBad (lead q : Bool) (bi : Nat) : Bool := if lead then decide (bi ≠ 0) else (!q || decide (bi ≠ 1))

theorem bk_ne1 : ((bk 1).toList == kC.toList) = false := by kernel_rfl
theorem bk_ne2 : ((bk 2).toList == kC.toList) = false := by kernel_rfl
theorem bk_ne3 : ((bk 0).toList == (rk 0).toList) = false := by kernel_rfl
theorem bk_ne4 : ((bk 2).toList == (rk 0).toList) = false := by kernel_rfl

theorem signs_law (F : Interp) {B : Nat} {w : World} {S G O Lg MB MO lO As k n : Nat} {fB fO fP fW fA : ByteArray → Option Value} {L V : Nat → Nat} {mP mW mA : Option Nat} {lw vw : Nat} {mx : Int} {lead : Bool} {ld : ByteArray} {u0 u1 : Value} (hF : F.answers w.tape) (h : Full B w S G O Lg MB MO lO As k n fB fO fP fW fA L V mP mW mA lw vw mx lead ld u0 u1)
    (q : Bool) (bi : Nat) (hbi : bi < 3) (hl : ld = if q then ⟨#[119, 48]⟩ else ⟨#[]⟩) (hq : q = true → 0 < n) :
    (signBad lead q bi = true → Calls Ybaf.prog 28 #[.pointer (some ⟨G, 0, none⟩), .string (bk bi), .bool lead] w (Bad w)) ∧ (signBad lead q bi = false → Calls Ybaf.prog 28 #[.pointer (some ⟨G, 0, none⟩), .string (bk bi), .bool lead] w fun e w' => e = .returned .nilIface ∧ Below w.heap.size w w') := by
  have hb3 : bi = 0 ∨ bi = 1 ∨ bi = 2 := by omega
  have g0 := h.laid.g0
  have g1 := h.laid.g1
  have g6 := h.laid.g6
  have g15 := h.laid.g15
  cases lead with
  | true =>
    rcases hb3 with rfl | rfl | rfl
    · refine ⟨fun e => absurd e (by simp [signBad]), fun _ => ?_⟩
      refine (signs_council G (bk 0) w (by exact g1)).mono ?_
      rintro e w' ⟨rfl, rfl⟩
      exact ⟨rfl, Below.refl _ _⟩
    · exact ⟨fun _ => signs_council_bad F G (bk 1) kC w hF g1 bk_ne1, fun e => absurd e (by simp [signBad])⟩
    · exact ⟨fun _ => signs_council_bad F G (bk 2) kC w hF g1 bk_ne2, fun e => absurd e (by simp [signBad])⟩
  | false =>
    cases q with
    | false =>
      simp at hl
      subst hl
      refine ⟨fun _ => signs_nolead F G (bk bi) kG w hF g0 g6, fun e => ?_⟩
      unfold signBad at e
      simp at e
    | true =>
      simp at hl
      subst hl
      have hn := hq rfl
      obtain ⟨k1, k2, k3⟩ := h.wkr hn
      rcases h.laid.hW with ⟨_, e⟩ | ⟨M, hM, hm⟩
      · omega
      · rw [hM] at g15
        have key : ∀ s : ByteArray, (s = rk 0 ∨ (s.toList == (rk 0).toList) = false) → _ := fun s hs => signs_lead F G M n lw vw fW s (rk 0) w hF (by exact g6) g15 hm k1 k2 k3 hs
        rcases hb3 with rfl | rfl | rfl
        · refine ⟨fun _ => ?_, fun e => absurd e (by simp [signBad])⟩
          refine (key (bk 0) (Or.inr bk_ne3)).mono ?_
          rintro e w' ⟨_, h2, h3⟩
          exact ⟨h2 bk_ne3, h3⟩
        · refine ⟨fun e => absurd e (by simp [signBad]), fun _ => ?_⟩
          refine (key (bk 1) (Or.inl (by rfl))).mono ?_
          rintro e w' ⟨h1, h2, h3⟩
          exact ⟨h1 (by rfl), h3⟩
        · refine ⟨fun _ => ?_, fun e => absurd e (by simp [signBad])⟩
          refine (key (bk 2) (Or.inr bk_ne4)).mono ?_
          rintro e w' ⟨_, h2, h3⟩
          exact ⟨h2 bk_ne4, h3⟩

/-- Fill, as the law calls it. -/
theorem fill_law (F : Interp) {B : Nat} {w : World} {S G O Lg MB MO lO As k n : Nat} {fB fO fP fW fA : ByteArray → Option Value} {L V : Nat → Nat} {mP mW mA : Option Nat} {lw vw : Nat} {mx at0 h1 : Int} {lead q sb b b2 b3 : Bool} {ld : ByteArray} {u0 u1 : Value} (hF : F.answers w.tape) (h : Full B w S G O Lg MB MO lO As k n fB fO fP fW fA L V mP mW mA lw vw mx lead ld u0 u1)
    (bi : Nat) (hbi : bi < 3) (hl : ld = if q then ⟨#[119, 48]⟩ else ⟨#[]⟩) (hq : q = true → 0 < n) (m Ws : Nat) (x : Nat → Nat) (hm : m ≤ 1024) (hn4 : n ≤ 4) (hmx : -9223372036854775808 ≤ mx ∧ mx ≤ 9223372036854775807) (hws : ∀ i, i < m → w.cell? ⟨Ws, i, none⟩ = some (.string (ak (x i)))) (hx : ∀ i, i < m → x i < 8)
    (hsb : sb = signBad lead q bi) (hb : b = true ↔ (sb = true ∨ ¬ Fair x k m)) (hb2 : b2 = true ↔ (b = true ∨ CountBad lead m n mx ld)) (hh1 : h1 = if (!b2 && decide (0 < (m : Int))) then -1 else at0) (hb3 : b3 = true ↔ (b2 = true ∨ h1 < 0)) :
    Calls Ybaf.prog 19 #[.pointer (some ⟨S, 0, none⟩), .int .i64 h1, .string kG, .string kO, .slice (some ⟨Ws, 0, none⟩) m m, .string (bk bi)] w fun e w' => (b3 = true → Bad w e w') ∧ (b3 = false → e = .returned .nilIface ∧ ∃ w1 w2, Below w.heap.size w w1 ∧ w2 = w1.setCell ⟨Lg, 0, none⟩ (.int .i64 h1) ∧ Closed G MO 0 k V fO kO w2 w') := by
  obtain ⟨hs1, hs2⟩ := signs_law F hF h q bi hbi hl hq
  rw [← hsb] at hs1 hs2
  by_cases hsbt : sb = true
  · refine (fill_sign_bad F h1 _ (bk bi) w hF h.laid (hs1 hsbt)).mono ?_
    intro e w' hbad
    refine ⟨fun _ => hbad, fun hf => ?_⟩
    have : b3 = true := hb3.2 (Or.inl (hb2.2 (Or.inl (hb.2 (Or.inl hsbt)))))
    rw [hf] at this
    cases this
  · have hsf : sb = false := by simpa using hsbt
    have hld : ld = ⟨#[]⟩ ∨ ld = ⟨#[119, 48]⟩ := by
      cases q
      · exact Or.inl (by simpa using hl)
      · exact Or.inr (by simpa using hl)
    have hh : m = 0 ∨ h1 < 0 ∨ ¬ Fair x k m ∨ CountBad lead m n mx ld := by
      by_cases h2 : b2 = true
      · rcases hb2.1 h2 with e | e
        · rcases hb.1 e with e | e
          · exact absurd e hsbt
          · exact Or.inr (Or.inr (Or.inl e))
        · exact Or.inr (Or.inr (Or.inr e))
      · by_cases hm0 : m = 0
        · exact Or.inl hm0
        · refine Or.inr (Or.inl ?_)
          rw [hh1, if_pos]
          · decide
          · simp at h2
            rw [h2]
            simp
            omega
    refine (fill_main F h1 Ws m m x (bk bi) w hF h.laid hm hn4 hmx.1 hmx.2 hws hx (hs2 hsf) hld hh h.hVi h.hLi h.hVL h.hVO h.hVG h.hVM h.hVl h.hGl h.hLg).mono ?_
    rintro e w' ⟨p1, p2, p3, p4⟩
    by_cases hfa : Fair x k m
    · by_cases hcb : CountBad lead m n mx ld
      · refine ⟨fun _ => p2 hfa hcb, fun hf => ?_⟩
        have : b3 = true := hb3.2 (Or.inl (hb2.2 (Or.inr hcb)))
        rw [hf] at this
        cases this
      · have hb2f : ¬ b2 = true := fun e => by
          rcases hb2.1 e with e | e
          · rcases hb.1 e with e | e
            · exact hsbt e
            · exact e hfa
          · exact hcb e
        by_cases hneg : h1 < 0
        · refine ⟨fun _ => p3 hfa hcb hneg, fun hf => ?_⟩
          have : b3 = true := hb3.2 (Or.inr hneg)
          rw [hf] at this
          cases this
        · refine ⟨fun ht => ?_, fun _ => ?_⟩
          · rcases hb3.1 ht with e | e
            · exact absurd e hb2f
            · exact absurd e hneg
          · refine p4 hfa hcb (by omega) ?_
            rcases hh with e | e | e | e
            · exact e
            · exact absurd e hneg
            · exact absurd hfa e
            · exact absurd e hcb
    · refine ⟨fun _ => p1 hfa, fun hf => ?_⟩
      have : b3 = true := hb3.2 (Or.inl (hb2.2 (Or.inl (hb.2 (Or.inr hfa)))))
      rw [hf] at this
      cases this
end Go.Proofs.YbulkldcFmt
