/-
  'queue.LawS0591BPriorityQueue': the row. The frame is the kit's own (proof-skeleton), at this function's number and types.
-/
import Derived.Test.YbulklfgLaw
import Derived.ProofKit
import Derived.Deep.SlicePairs
import Derived.ChangeOld
import Derived.Below
import Derived.OpenShut
namespace Go.Proofs.Ybulklfg
open Go.ChangeShapes Go.WideShapes Go.ChangeAt Go.RowKit Go.Deep
set_option linter.unusedVariables false

theorem Yba.own : ownKnob Yba.prog.godebug = none := by kernel_rfl
theorem Yba.laidOut : laidOutB Yba.prog = true := by kernel_rfl

theorem u8_bounds {x : Int} (h : (Lit.int .u8 x).wf = true) : 0 ≤ x ∧ x ≤ 255 := by
  simpa [Lit.wf, IntKind.min, IntKind.max, IntKind.signed, IntKind.bits] using h
theorem i32_bounds {x : Int} (h : (Lit.int .i32 x).wf = true) : -2147483648 ≤ x ∧ x ≤ 2147483647 := by
  simpa [Lit.wf, IntKind.min, IntKind.max, IntKind.signed, IntKind.bits] using h

/-- The address of a cell that is there has no spot. -/
theorem addr_plain {w : World} {a : Addr} {v : Value} (h : w.cell? a = some v) : a = ⟨a.block, a.off, none⟩ := by
  have := World.cell?_spot h
  cases a
  simp_all

theorem ops_of {H : Type} {enc : TypeId × Value → H} {W : World} {fuel : Nat} {a : Option Addr} {len cap : Nat} {x : DataW H × List MemPlace}
    (h : DataW.trod enc Yba.prog W 0 (fun _ => true) true fuel 57 [.slice a len cap] = some x) : ∃ O A, IsOps W a len O A := by
  rcases open_slice_pairs Yba.underlying57 Yba.underlying68 (by kernel_rfl) rfl rfl (by kernel_rfl) (by kernel_rfl) h with ⟨hcs, _⟩ | ⟨a', len', cap', m, n, V0, V1, D0, D1, P0, P1, hcs, _, hl, hm, hmm, _, hx⟩
  · simp at hcs
    obtain ⟨rfl, rfl, rfl⟩ := hcs
    exact ⟨fun _ => 0, fun _ => 0, fun i hi => absurd hi (by omega), Or.inl rfl⟩
  · simp at hcs
    obtain ⟨rfl, rfl, rfl⟩ := hcs
    simp only [if_true] at hmm
    subst hmm
    have hu8 : ∀ i, i < m → ∃ z, V0 i = .int .u8 z ∧ (Lit.int .u8 z).wf = true := fun i hi => by
      obtain ⟨z, hz, _, hw⟩ := DataW.trod_int Yba.underlying5 (hx i hi).2.2.1
      exact ⟨z, by simpa using hz, hw⟩
    have hi32 : ∀ i, i < m → ∃ z, V1 i = .int .i32 z ∧ (Lit.int .i32 z).wf = true := fun i hi => by
      obtain ⟨z, hz, _, hw⟩ := DataW.trod_int Yba.underlying21 (hx i hi).2.2.2
      exact ⟨z, by simpa using hz, hw⟩
    obtain ⟨O, hO⟩ := choose_lt hu8
    obtain ⟨A, hA⟩ := choose_lt hi32
    refine ⟨O, A, fun i hi => ?_, ?_⟩
    · have h1 := u8_bounds (hO i (by omega)).2
      have h2 := i32_bounds (hA i (by omega)).2
      exact ⟨h1.1, h1.2, h2.1, h2.2⟩
    · by_cases h0 : len = 0
      · exact Or.inl h0
      · have ha : a' = ⟨a'.block, a'.off, none⟩ := addr_plain (by simpa [Addr.add] using (hx 0 (by omega)).1)
        refine Or.inr ⟨a'.block, a'.off, by rw [← ha], ?_, fun i hi => ?_⟩
        · have := World.block_lt_of_cell? W _ (hx 0 (by omega)).1
          simpa [Addr.add] using this
        · have h1 := (hx i (by omega)).1
          have h2 := (hx i (by omega)).2.1
          rw [ha, add_plain] at h1 h2
          rw [(hO i (by omega)).1] at h1
          rw [(hA i (by omega)).1] at h2
          exact ⟨h1, by simpa [Nat.add_assoc] using h2⟩

set_option maxRecDepth 100000 in
theorem law_all (r : Int) (a : Option Addr) (n cap : Nat) (O A : Nat → Int) (w : World) (hr : 0 ≤ r ∧ r ≤ 255) (h : IsOps w a n O A) :
    Calls Yba.prog 5 #[.int .u8 r, .slice a n cap] w fun e w' => e = .returned (.bool true) ∧ Below w.heap.size w w' := by
  by_cases hn : n ≤ 1024
  · exact law_walk r a n cap O A w hr h hn
  · clear h hr
    go_enter Yba.func5, Yba.ntmps5
    go_wp2
    go_ret
    exact ⟨rfl, Below.refl _ _⟩

set_option maxRecDepth 100000 in
theorem law_lifted (os : Os) (started : os.Started) (H : Type) (enc : TypeId × Value → H) :
    ReturnsInHanded {} Yba.checked os 5 .any (Rows.lawS0591BPriorityQueueSpec.pre6 enc Yba.prog Yba.f5 Rows.lawS0591BPriorityQueueRow.domain false) (Rows.lawS0591BPriorityQueueSpec.post enc Yba.prog Yba.f5 false true false false) := by
  refine returnsInHanded_of_change (C := Yba.checked) Yba.own started (by kernel_rfl) Yba.func5
    (ChangeSpec.witness6 (enc := enc) (C := Yba.checked) false ⟨#[], #[.int .u8 0, .slice none 0 0], []⟩ 8 (by kernel_rfl) (by kernel_rfl) (by kernel_rfl) (by kernel_rfl)) ?_
  intro W base args ds gs before hval0 hW hcnd _
  have hval : ∀ (j : Nat) t v, Yba.f5.params[j]? = some t → args[j]? = some v → Value.okWide Yba.prog W .any base t v := hval0
  have hW' := hW
  obtain ⟨p, q, hA0, hV, rfl, hfz, hnd⟩ := hW
  have hA : DataW.TrodAll enc Yba.prog W 0 (fun _ => true) true Yba.f5.params.toList args.toList ds p := hA0
  rw [Yba.params5] at hA hval
  obtain ⟨v0, vs0, d0, ds0, p0, q0, hargs, rfl, rfl, h0, r0⟩ := trodAll_cons hA
  obtain ⟨v1, vs1, d1, ds1, p1, q1, rfl, rfl, rfl, h1, r1⟩ := trodAll_cons r0
  obtain ⟨rfl, rfl, rfl⟩ := trodAll_nil r1
  obtain rfl : args = #[v0, v1] := by cases args; simp_all
  obtain ⟨rfl, rfl⟩ := trodVars_none hV
  obtain ⟨x0, rfl, rfl, rfl, w0⟩ := open_int Yba.underlying5 (hval 0 5 v0 rfl rfl) h0
  obtain ⟨a1, len1, cap1, rfl⟩ := okWide_slice Yba.underlying57 (hval 1 57 v1 rfl rfl)
  have lt1 : ∀ x ∈ p1, x.block < W.heap.size := by obtain ⟨m, hm⟩ := h1; exact DataW.trod_lt m _ _ _ hm
  obtain ⟨O, A, e1⟩ : ∃ O A, IsOps W a1 len1 O A := by obtain ⟨m, hm⟩ := h1; exact ops_of (by simpa [Value.cells] using hm)
  clear hA0 hval0
  refine (law_all x0 a1 len1 cap1 O A W (u8_bounds w0) e1).mono fun e W' ⟨he, bel⟩ => ?_
  subst he
  exact ⟨_, rfl, _, _, _, [], _, [], hW', trodAll_mk1 (shut_bool Yba.underlying4 _),
    trodAll_cons_mk (shut_int Yba.underlying5 w0) (trodAll_cons_mk (Below.trod Yba.laidOut (by kernel_rfl) (of_decide_eq_true (by kernel_rfl)) h1 bel lt1) trodAll_mk0), rfl, bel.frame _, fun h => by cases h⟩

theorem priorityQueue_holds : Rows.LawS0591BPriorityQueueSaid :=
  OpenClaim.holds_of_wide 5 Yba.f5 rfl rfl rfl rfl rfl rfl rfl ⟨rfl, rfl, rfl, rfl, rfl⟩ rfl rfl rfl rfl rfl (by kernel_rfl) Yba.func5 (by kernel_rfl)
    (of_decide_eq_true (by kernel_rfl)) (by unfold Func.isWrapper; first | (rw [if_pos (by decide +kernel)]; kernel_rfl) | (rw [if_neg (by decide +kernel)]; exact ⟨rfl, rfl⟩))
    (fun os started H enc _ => law_lifted os started H enc)
end Go.Proofs.Ybulklfg
