/-
  'causant.LawS0592BLaid': the row. The frame is the kit's own (proof-skeleton), at this function's number and types.
-/
import Derived.Test.YbulklfuLaid
import Derived.Test.YbulklfuArgs
import Derived.OpenShut
namespace Go.Proofs.Ybulklfu
open Go.ChangeShapes Go.WideShapes Go.ChangeAt Go.RowKit Go.Deep
set_option linter.unusedVariables false

set_option maxRecDepth 100000 in
theorem laid_all (r o : Int) (a0 : Option Addr) (n0 c0 : Nat) (C0 T0 : Nat → Int) (a1 : Option Addr) (n1 c1 : Nat) (C1 T1 : Nat → Int) (w : World)
    (hr : 0 ≤ r ∧ r ≤ 255) (ho : 0 ≤ o ∧ o ≤ 255) (h0 : IsEnts w a0 n0 C0 T0) (h1 : IsEnts w a1 n1 C1 T1) :
    Calls Yba.prog 4 #[.int .u8 r, .int .u8 o, .slice a0 n0 c0, .slice a1 n1 c1] w fun e w' => e = .returned (.bool true) ∧ Below w.heap.size w w' := by
  by_cases hn0 : n0 ≤ 1024
  · by_cases hn1 : n1 ≤ 1024
    · obtain ⟨off, rfl⟩ := Int.eq_ofNat_of_zero_le ho.1
      by_cases hc : (n0 : Int) ≤ 1 + r % 16
      · exact laid_walk_small r off a0 n0 c0 C0 T0 a1 n1 c1 C1 T1 w hr (by omega) h0 h1 hn0 hn1 hc
      · exact laid_walk_large r off a0 n0 c0 C0 T0 a1 n1 c1 C1 T1 w hr (by omega) h0 h1 hn0 hn1 (by omega)
    · clear h0 h1 hr ho
      go_enter Yba.func4, Yba.ntmps4
      go_wp2
      go_ret
      exact ⟨rfl, Below.refl _ _⟩
  · clear h0 h1 hr ho
    go_enter Yba.func4, Yba.ntmps4
    go_wp2
    go_ret
    exact ⟨rfl, Below.refl _ _⟩

set_option maxRecDepth 100000 in
theorem laid_lifted (os : Os) (started : os.Started) (H : Type) (enc : TypeId × Value → H) :
    ReturnsInHanded {} Yba.checked os 4 .any (Rows.lawS0592BLaidSpec.pre6 enc Yba.prog Yba.f4 Rows.lawS0592BLaidRow.domain false) (Rows.lawS0592BLaidSpec.post enc Yba.prog Yba.f4 false true false false) := by
  refine returnsInHanded_of_change (C := Yba.checked) Yba.own started (by kernel_rfl) Yba.func4
    (ChangeSpec.witness6 (enc := enc) (C := Yba.checked) false ⟨#[], #[.int .u8 0, .int .u8 0, .slice none 0 0, .slice none 0 0], []⟩ 8 (by kernel_rfl) (by kernel_rfl) (by kernel_rfl) (by kernel_rfl)) ?_
  intro W base args ds gs before hval0 hW hcnd _
  have hval : ∀ (j : Nat) t v, Yba.f4.params[j]? = some t → args[j]? = some v → Value.okWide Yba.prog W .any base t v := hval0
  have hW' := hW
  obtain ⟨p, q, hA0, hV, rfl, hfz, hnd⟩ := hW
  have hA : DataW.TrodAll enc Yba.prog W 0 (fun _ => true) true Yba.f4.params.toList args.toList ds p := hA0
  rw [Yba.params4] at hA hval
  obtain ⟨v0, vs0, d0, ds0, p0, q0, hargs, rfl, rfl, h0, r0⟩ := trodAll_cons hA
  obtain ⟨v1, vs1, d1, ds1, p1, q1, rfl, rfl, rfl, h1, r1⟩ := trodAll_cons r0
  obtain ⟨v2, vs2, d2, ds2, p2, q2, rfl, rfl, rfl, h2, r2⟩ := trodAll_cons r1
  obtain ⟨v3, vs3, d3, ds3, p3, q3, rfl, rfl, rfl, h3, r3⟩ := trodAll_cons r2
  obtain ⟨rfl, rfl, rfl⟩ := trodAll_nil r3
  obtain rfl : args = #[v0, v1, v2, v3] := by cases args; simp_all
  obtain ⟨rfl, rfl⟩ := trodVars_none hV
  obtain ⟨x0, rfl, rfl, rfl, w0⟩ := open_int Yba.underlying5 (hval 0 5 v0 rfl rfl) h0
  obtain ⟨x1, rfl, rfl, rfl, w1⟩ := open_int Yba.underlying5 (hval 1 5 v1 rfl rfl) h1
  obtain ⟨a2, len2, cap2, rfl⟩ := okWide_slice Yba.underlying22 (hval 2 22 v2 rfl rfl)
  obtain ⟨a3, len3, cap3, rfl⟩ := okWide_slice Yba.underlying22 (hval 3 22 v3 rfl rfl)
  have lt2 : ∀ x ∈ p2, x.block < W.heap.size := by obtain ⟨m, hm⟩ := h2; exact DataW.trod_lt m _ _ _ hm
  have lt3 : ∀ x ∈ p3, x.block < W.heap.size := by obtain ⟨m, hm⟩ := h3; exact DataW.trod_lt m _ _ _ hm
  obtain ⟨C2, T2, e2⟩ : ∃ C T, IsEnts W a2 len2 C T := by obtain ⟨m, hm⟩ := h2; exact ents_of (by simpa [Value.cells] using hm)
  obtain ⟨C3, T3, e3⟩ : ∃ C T, IsEnts W a3 len3 C T := by obtain ⟨m, hm⟩ := h3; exact ents_of (by simpa [Value.cells] using hm)
  clear hA0 hval0
  refine (laid_all x0 x1 a2 len2 cap2 C2 T2 a3 len3 cap3 C3 T3 W (u8_bounds w0) (u8_bounds w1) e2 e3).mono fun e W' ⟨he, bel⟩ => ?_
  subst he
  exact ⟨_, rfl, _, _, _, [], _, [], hW', trodAll_mk1 (shut_bool Yba.underlying4 _),
    trodAll_cons_mk (shut_int Yba.underlying5 w0) (trodAll_cons_mk (shut_int Yba.underlying5 w1) (trodAll_cons_mk (Below.trod Yba.laidOut (by kernel_rfl) (of_decide_eq_true (by kernel_rfl)) h2 bel lt2)
      (trodAll_cons_mk (Below.trod Yba.laidOut (by kernel_rfl) (of_decide_eq_true (by kernel_rfl)) h3 bel lt3) trodAll_mk0))), rfl, bel.frame _, fun h => by cases h⟩

theorem laid_holds : Rows.LawS0592BLaidSaid :=
  OpenClaim.holds_of_wide 4 Yba.f4 rfl rfl rfl rfl rfl rfl rfl ⟨rfl, rfl, rfl, rfl, rfl⟩ rfl rfl rfl rfl rfl (by kernel_rfl) Yba.func4 (by kernel_rfl)
    (of_decide_eq_true (by kernel_rfl)) (by unfold Func.isWrapper; first | (rw [if_pos (by decide +kernel)]; kernel_rfl) | (rw [if_neg (by decide +kernel)]; exact ⟨rfl, rfl⟩))
    (fun os started H enc _ => laid_lifted os started H enc)
end Go.Proofs.Ybulklfu
