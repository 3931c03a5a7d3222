import Derived.Test.YbulklfuExact
import Derived.ProofKit
import Derived.Deep.SlicePairs
import Derived.ChangeOld
import Derived.Below
namespace Go.Proofs.Ybulklfu
open Go.ChangeShapes Go.WideShapes Go.ChangeAt Go.RowKit Go.Deep
set_option linter.unusedVariables false

theorem Yba.own : ownKnob Yba.prog.godebug = none := by kernel_rfl
theorem Yba.laidOut : laidOutB Yba.prog = true := by kernel_rfl

theorem u8_bounds {x : Int} (h : (Lit.int .u8 x).wf = true) : 0 ≤ x ∧ x ≤ 255 := by
  simpa [Lit.wf, IntKind.min, IntKind.max, IntKind.signed, IntKind.bits] using h

/-- The address of a cell that is there has no spot. -/
theorem addr_plain {w : World} {a : Addr} {v : Value} (h : w.cell? a = some v) : a = ⟨a.block, a.off, none⟩ := by
  have := World.cell?_spot h
  cases a
  simp_all

theorem ents_of {H : Type} {enc : TypeId × Value → H} {W : World} {fuel : Nat} {a : Option Addr} {len cap : Nat} {x : DataW H × List MemPlace}
    (h : DataW.trod enc Yba.prog W 0 (fun _ => true) true fuel 22 [.slice a len cap] = some x) : ∃ C T, IsEnts W a len C T := by
  rcases open_slice_pairs Yba.underlying22 Yba.underlying37 (by kernel_rfl) rfl rfl (by kernel_rfl) (by kernel_rfl) h with ⟨hcs, _⟩ | ⟨a', len', cap', m, n, V0, V1, D0, D1, P0, P1, hcs, _, hl, hm, hmm, _, hx⟩
  · simp at hcs
    obtain ⟨rfl, rfl, rfl⟩ := hcs
    exact ⟨fun _ => 0, fun _ => 0, fun i hi => absurd hi (by omega), Or.inl rfl⟩
  · simp at hcs
    obtain ⟨rfl, rfl, rfl⟩ := hcs
    simp only [if_true] at hmm
    subst hmm
    have hu8 : ∀ i, i < m → ∃ z, V0 i = .int .u8 z ∧ (Lit.int .u8 z).wf = true := fun i hi => by
      obtain ⟨z, hz, _, hw⟩ := DataW.trod_int Yba.underlying5 (hx i hi).2.2.1
      exact ⟨z, by simpa using hz, hw⟩
    have hu64 : ∀ i, i < m → ∃ z, V1 i = .int .u64 z := fun i hi => by
      obtain ⟨z, hz, _, hw⟩ := DataW.trod_int Yba.underlying31 (hx i hi).2.2.2
      exact ⟨z, by simpa using hz⟩
    obtain ⟨C, hC⟩ := choose_lt hu8
    obtain ⟨T, hT⟩ := choose_lt hu64
    refine ⟨C, T, fun i hi => u8_bounds (hC i (by omega)).2, ?_⟩
    by_cases h0 : len = 0
    · exact Or.inl h0
    · have ha : a' = ⟨a'.block, a'.off, none⟩ := addr_plain (by simpa [Addr.add] using (hx 0 (by omega)).1)
      refine Or.inr ⟨a'.block, a'.off, by rw [← ha], ?_, fun i hi => ?_⟩
      · have := World.block_lt_of_cell? W _ (hx 0 (by omega)).1
        simpa [Addr.add] using this
      · have h1 := (hx i (by omega)).1
        have h2 := (hx i (by omega)).2.1
        rw [ha, add_plain] at h1 h2
        rw [(hC i (by omega)).1] at h1
        rw [hT i (by omega)] at h2
        exact ⟨h1, by simpa [Nat.add_assoc] using h2⟩

theorem nums_of {H : Type} {enc : TypeId × Value → H} {W : World} {fuel : Nat} {t e : TypeId} {k : IntKind} {a : Option Addr} {len cap : Nat} {x : DataW H × List MemPlace} (ht : Yba.prog.underlying t = some (.slice e)) (he : Yba.prog.underlying e = some (.int k)) (ce : Yba.prog.cellsOf e = 1)
    (h : DataW.trod enc Yba.prog W 0 (fun _ => true) true fuel t [.slice a len cap] = some x) : ∃ Z, IsNums W k a len Z := by
  rcases open_ints ht he ce h with ⟨hcs, _⟩ | ⟨x, l, c, zs, hcs, _, hl, hm, hz, _, hcell, hwz⟩
  · simp at hcs
    obtain ⟨rfl, rfl, rfl⟩ := hcs
    exact ⟨fun _ => 0, Or.inl rfl⟩
  · simp at hcs
    obtain ⟨rfl, rfl, rfl⟩ := hcs
    simp only [if_true] at hz
    refine ⟨fun i => zs.getD i 0, ?_⟩
    by_cases h0 : len = 0
    · exact Or.inl h0
    · have ha : x = ⟨x.block, x.off, none⟩ := addr_plain (by simpa [Addr.add] using hcell 0 (by omega))
      refine Or.inr ⟨x.block, x.off, by rw [← ha], ?_, fun i hi => ?_⟩
      · have := World.block_lt_of_cell? W _ (hcell 0 (by omega))
        simpa [Addr.add] using this
      · have h1 := hcell i (by omega)
        rw [ha, add_plain] at h1
        exact h1
end Go.Proofs.Ybulklfu
