/-
  'causant.LawS0592BExact': the row. The frame is the kit's own (proof-skeleton), at this function's number and types.
-/
import Derived.Test.YbulklfuArgs
import Derived.OpenShut
namespace Go.Proofs.Ybulklfu
open Go.ChangeShapes Go.WideShapes Go.ChangeAt Go.RowKit Go.Deep
set_option linter.unusedVariables false

set_option maxRecDepth 100000 in
theorem exact_all (r s : Int) (a0 : Option Addr) (n0 c0 : Nat) (C0 T0 : Nat → Int) (a1 : Option Addr) (n1 c1 : Nat) (C1 T1 : Nat → Int) (a2 : Option Addr) (n2 c2 : Nat) (Z : Nat → Int) (w : World)
    (hr : 0 ≤ r ∧ r ≤ 255) (hs : 0 ≤ s ∧ s ≤ 255) (h0 : IsEnts w a0 n0 C0 T0) (h1 : IsEnts w a1 n1 C1 T1) (h2 : IsNums w .u64 a2 n2 Z) :
    Calls Yba.prog 3 #[.int .u8 r, .slice a0 n0 c0, .slice a1 n1 c1, .slice a2 n2 c2, .int .u8 s] w fun e w' => e = .returned (.bool true) ∧ Below w.heap.size w w' := by
  by_cases hn0 : n0 ≤ 1024
  · by_cases hn1 : n1 ≤ 1024
    · by_cases hn2 : n2 ≤ 1024
      · exact exact_walk r s a0 n0 c0 C0 T0 a1 n1 c1 C1 T1 a2 n2 c2 Z w hr hs h0 h1 h2 hn0 hn1 hn2
      · clear h0 h1 h2 hr hs
        go_enter Yba.func3, Yba.ntmps3
        go_wp2
        go_ret
        exact ⟨rfl, Below.refl _ _⟩
    · clear h0 h1 h2 hr hs
      go_enter Yba.func3, Yba.ntmps3
      go_wp2
      go_ret
      exact ⟨rfl, Below.refl _ _⟩
  · clear h0 h1 h2 hr hs
    go_enter Yba.func3, Yba.ntmps3
    go_wp2
    go_ret
    exact ⟨rfl, Below.refl _ _⟩

set_option maxRecDepth 100000 in
theorem exact_lifted (os : Os) (started : os.Started) (H : Type) (enc : TypeId × Value → H) :
    ReturnsInHanded {} Yba.checked os 3 .any (Rows.lawS0592BExactSpec.pre6 enc Yba.prog Yba.f3 Rows.lawS0592BExactRow.domain false) (Rows.lawS0592BExactSpec.post enc Yba.prog Yba.f3 false true false false) := by
  refine returnsInHanded_of_change (C := Yba.checked) Yba.own started (by kernel_rfl) Yba.func3
    (ChangeSpec.witness6 (enc := enc) (C := Yba.checked) false ⟨#[], #[.int .u8 0, .slice none 0 0, .slice none 0 0, .slice none 0 0, .int .u8 0], []⟩ 8 (by kernel_rfl) (by kernel_rfl) (by kernel_rfl) (by kernel_rfl)) ?_
  intro W base args ds gs before hval0 hW hcnd _
  have hval : ∀ (j : Nat) t v, Yba.f3.params[j]? = some t → args[j]? = some v → Value.okWide Yba.prog W .any base t v := hval0
  have hW' := hW
  obtain ⟨p, q, hA0, hV, rfl, hfz, hnd⟩ := hW
  have hA : DataW.TrodAll enc Yba.prog W 0 (fun _ => true) true Yba.f3.params.toList args.toList ds p := hA0
  rw [Yba.params3] at hA hval
  obtain ⟨v0, vs0, d0, ds0, p0, q0, hargs, rfl, rfl, h0, r0⟩ := trodAll_cons hA
  obtain ⟨v1, vs1, d1, ds1, p1, q1, rfl, rfl, rfl, h1, r1⟩ := trodAll_cons r0
  obtain ⟨v2, vs2, d2, ds2, p2, q2, rfl, rfl, rfl, h2, r2⟩ := trodAll_cons r1
  obtain ⟨v3, vs3, d3, ds3, p3, q3, rfl, rfl, rfl, h3, r3⟩ := trodAll_cons r2
  obtain ⟨v4, vs4, d4, ds4, p4, q4, rfl, rfl, rfl, h4, r4⟩ := trodAll_cons r3
  obtain ⟨rfl, rfl, rfl⟩ := trodAll_nil r4
  obtain rfl : args = #[v0, v1, v2, v3, v4] := by cases args; simp_all
  obtain ⟨rfl, rfl⟩ := trodVars_none hV
  obtain ⟨x0, rfl, rfl, rfl, w0⟩ := open_int Yba.underlying5 (hval 0 5 v0 rfl rfl) h0
  obtain ⟨a1, len1, cap1, rfl⟩ := okWide_slice Yba.underlying22 (hval 1 22 v1 rfl rfl)
  obtain ⟨a2, len2, cap2, rfl⟩ := okWide_slice Yba.underlying22 (hval 2 22 v2 rfl rfl)
  obtain ⟨a3, len3, cap3, rfl⟩ := okWide_slice Yba.underlying23 (hval 3 23 v3 rfl rfl)
  obtain ⟨x4, rfl, rfl, rfl, w4⟩ := open_int Yba.underlying5 (hval 4 5 v4 rfl rfl) h4
  have lt1 : ∀ x ∈ p1, x.block < W.heap.size := by obtain ⟨m, hm⟩ := h1; exact DataW.trod_lt m _ _ _ hm
  have lt2 : ∀ x ∈ p2, x.block < W.heap.size := by obtain ⟨m, hm⟩ := h2; exact DataW.trod_lt m _ _ _ hm
  have lt3 : ∀ x ∈ p3, x.block < W.heap.size := by obtain ⟨m, hm⟩ := h3; exact DataW.trod_lt m _ _ _ hm
  obtain ⟨C1, T1, e1⟩ : ∃ C T, IsEnts W a1 len1 C T := by obtain ⟨m, hm⟩ := h1; exact ents_of (by simpa [Value.cells] using hm)
  obtain ⟨C2, T2, e2⟩ : ∃ C T, IsEnts W a2 len2 C T := by obtain ⟨m, hm⟩ := h2; exact ents_of (by simpa [Value.cells] using hm)
  obtain ⟨Z, e3⟩ : ∃ Z, IsNums W .u64 a3 len3 Z := by obtain ⟨m, hm⟩ := h3; exact nums_of Yba.underlying23 Yba.underlying31 (by kernel_rfl) (by simpa [Value.cells] using hm)
  clear hA0 hval0
  refine (exact_all x0 x4 a1 len1 cap1 C1 T1 a2 len2 cap2 C2 T2 a3 len3 cap3 Z W (u8_bounds w0) (u8_bounds w4) e1 e2 e3).mono fun e W' ⟨he, bel⟩ => ?_
  subst he
  exact ⟨_, rfl, _, _, _, [], _, [], hW', trodAll_mk1 (shut_bool Yba.underlying4 _),
    trodAll_cons_mk (shut_int Yba.underlying5 w0) (trodAll_cons_mk (Below.trod Yba.laidOut (by kernel_rfl) (of_decide_eq_true (by kernel_rfl)) h1 bel lt1) (trodAll_cons_mk (Below.trod Yba.laidOut (by kernel_rfl) (of_decide_eq_true (by kernel_rfl)) h2 bel lt2)
      (trodAll_cons_mk (Below.trod Yba.laidOut (by kernel_rfl) (of_decide_eq_true (by kernel_rfl)) h3 bel lt3) (trodAll_cons_mk (shut_int Yba.underlying5 w4) trodAll_mk0)))), rfl, bel.frame _, fun h => by cases h⟩

theorem exact_holds : Rows.LawS0592BExactSaid :=
  OpenClaim.holds_of_wide 3 Yba.f3 rfl rfl rfl rfl rfl rfl rfl ⟨rfl, rfl, rfl, rfl, rfl⟩ rfl rfl rfl rfl rfl (by kernel_rfl) Yba.func3 (by kernel_rfl)
    (of_decide_eq_true (by kernel_rfl)) (by unfold Func.isWrapper; first | (rw [if_pos (by decide +kernel)]; kernel_rfl) | (rw [if_neg (by decide +kernel)]; exact ⟨rfl, rfl⟩))
    (fun os started H enc _ => exact_lifted os started H enc)
end Go.Proofs.Ybulklfu
