/-
  THE TOLD CARD OF 'group.LawS0587CFill'. The frame is the kit's own (HexbadTold.lean, HexbadSeven.lean; proof-skeleton for the slice), at this function's number and types.
-/
import Derived.Test.YbulkldcFmtLaw
import Derived.Test.YbulkldcFmtCards
import Derived.ProofKit
import Derived.OpenShut
import Derived.Stop.JoinedAt
import Derived.Stop.JoinedTold
import Derived.SevenToldRow
import Derived.ChangeOld
import Derived.Below
namespace Go.Proofs.YbulkldcFmt
open Go.ChangeShapes Go.WideShapes Go.ChangeAt Go.RowKit Go.Kit
open Go.Extern.Stop Go.Stop Go.Extern
set_option linter.unusedVariables false

theorem CFill.own : ownKnob Ybaf.prog.godebug = none := by kernel_rfl
theorem CFill.laidOut : laidOutB Ybaf.prog = true := by kernel_rfl

theorem u8_bounds {x : Int} (h : (Lit.int .u8 x).wf = true) : 0 ≤ x ∧ x ≤ 255 := by
  simpa [Lit.wf, IntKind.min, IntKind.max, IntKind.signed, IntKind.bits] using h
theorem i64_bounds {x : Int} (h : (Lit.int .i64 x).wf = true) : -9223372036854775808 ≤ x ∧ x ≤ 9223372036854775807 := by
  simpa [Lit.wf, IntKind.min, IntKind.max, IntKind.signed, IntKind.bits] using h

/-- The address of a cell that is there has no spot. -/
theorem addr_plain {w : World} {a : Addr} {v : Value} (h : w.cell? a = some v) : a = ⟨a.block, a.off, none⟩ := by
  have := World.cell?_spot h
  cases a
  simp_all

theorem bytes_of {H : Type} {enc : TypeId × Value → H} {W : World} {fuel : Nat} {a : Option Addr} {len cap : Nat} {x : DataW H × List MemPlace}
    (h : DataW.trod enc Ybaf.prog W 0 (fun _ => true) true fuel 22 [.slice a len cap] = some x) : ∃ Z, Bytes W a len Z := by
  rcases open_ints Ybaf.underlying22 Ybaf.underlying5 (by kernel_rfl) h with ⟨hcs, _⟩ | ⟨x, l, c, zs, hcs, _, hl, hm, hz, _, hcell, hwz⟩
  · simp at hcs
    obtain ⟨rfl, rfl, rfl⟩ := hcs
    exact ⟨fun _ => 0, fun i hi => absurd hi (by omega), Or.inl rfl⟩
  · simp at hcs
    obtain ⟨rfl, rfl, rfl⟩ := hcs
    simp only [if_true] at hz
    have hzw : ∀ i, i < len → 0 ≤ zs.getD i 0 ∧ zs.getD i 0 ≤ 255 := fun i hi => by
      have hlt : i < zs.length := by omega
      have e : zs.getD i 0 = zs[i] := by simp [List.getD, List.getElem?_eq_getElem hlt]
      rw [e]
      exact u8_bounds (hwz _ (List.getElem_mem hlt))
    refine ⟨fun i => (zs.getD i 0).toNat, fun i hi => ?_, ?_⟩
    · have := hzw i hi
      show (zs.getD i 0).toNat < 256
      omega
    · by_cases h0 : len = 0
      · exact Or.inl h0
      · have ha : x = ⟨x.block, x.off, none⟩ := addr_plain (by simpa [Addr.add] using hcell 0 (by omega))
        refine Or.inr ⟨x.block, x.off, by rw [← ha], ?_, fun i hi => ?_⟩
        · have := World.block_lt_of_cell? W _ (hcell 0 (by omega))
          simpa [Addr.add] using this
        · have h1 := hcell i (by omega)
          rw [ha, add_plain] at h1
          rw [Int.toNat_of_nonneg (hzw i hi).1]
          exact h1

set_option maxRecDepth 100000 in
theorem cfill_all (F : Interp) (at0 mx : Int) (lead wl : Bool) (n0 k0 by0 : Nat) (a : Option Addr) (m c : Nat) (Z : Nat → Nat) (w : World) (hF : F.answers w.tape) (hn : n0 < 256) (hk : k0 < 256) (hby : by0 < 256) (hZ : Bytes w a m Z) (hmx1 : -9223372036854775808 ≤ mx) (hmx2 : mx ≤ 9223372036854775807) :
    Calls Ybaf.prog 5 #[.int .i64 at0, .int .i64 mx, .bool lead, .bool wl, .int .u8 n0, .int .u8 k0, .int .u8 by0, .slice a m c] w fun e w' => e = .returned (.bool true) ∧ Below w.heap.size w w' := by
  by_cases hm : m ≤ 1024
  · exact cfill_walk F at0 mx lead wl n0 k0 by0 a m c Z w hF hn hk hby hZ hm hmx1 hmx2
  · clear hZ hF hmx1 hmx2 hn hk hby
    go_enter Ybaf.func5, Ybaf.ntmps5
    go_wp2
    go_ret
    exact ⟨rfl, Below.refl _ _⟩

theorem nat_of_u8 {x : Int} (h : 0 ≤ x ∧ x ≤ 255) : ∃ n : Nat, x = n ∧ n < 256 := ⟨x.toNat, by omega, by omega⟩

set_option maxRecDepth 100000 in
theorem cfill_lifted (os : Os) (started : os.Started) (H : Type) (enc : TypeId × Value → H) :
    ReturnsInTold none {} Ybaf.checked os 5 .any Input.okWide ((OpenSpec.ofChange Rows.lawS0587CFillSpec).preRow enc Ybaf.prog Ybaf.f5 [] false []) (fun F => ((OpenSpec.ofChange Rows.lawS0587CFillSpec).at F).post enc Ybaf.prog Ybaf.f5 false true false false) (aloneAtReturn Ybaf.prog) nothingAlways := by
  refine returnsInTold_of_row (C := Ybaf.checked) (s := OpenSpec.ofChange Rows.lawS0587CFillSpec) (by kernel_rfl) CFill.own started (by kernel_rfl) Ybaf.func5
    (OpenSpec.witness_stopped (enc := enc) (C := Ybaf.checked) false ⟨#[], #[.int .i64 0, .int .i64 0, .bool false, .bool false, .int .u8 0, .int .u8 0, .int .u8 0, .slice none 0 0], []⟩ 8 (by kernel_rfl) (by kernel_rfl) (by kernel_rfl) (by kernel_rfl)) ?_
  intro F W base args ds gs before _ hF hval0 hW _ _ _ _ _
  have hval : ∀ (j : Nat) t v, Ybaf.f5.params[j]? = some t → args[j]? = some v → Value.okWide Ybaf.prog W .any base t v := hval0
  have hW' := hW
  obtain ⟨p, q, hA0, hV, rfl, hfz, hnd⟩ := hW
  have hA : DataW.TrodAll enc Ybaf.prog W 0 (fun _ => true) true Ybaf.f5.params.toList args.toList ds p := hA0
  rw [Ybaf.params5] at hA hval
  obtain ⟨v0, vs0, d0, ds0, p0, q0, hargs, rfl, rfl, h0, r0⟩ := trodAll_cons hA
  obtain ⟨v1, vs1, d1, ds1, p1, q1, rfl, rfl, rfl, h1, r1⟩ := trodAll_cons r0
  obtain ⟨v2, vs2, d2, ds2, p2, q2, rfl, rfl, rfl, h2, r2⟩ := trodAll_cons r1
  obtain ⟨v3, vs3, d3, ds3, p3, q3, rfl, rfl, rfl, h3, r3⟩ := trodAll_cons r2
  obtain ⟨v4, vs4, d4, ds4, p4, q4, rfl, rfl, rfl, h4, r4⟩ := trodAll_cons r3
  obtain ⟨v5, vs5, d5, ds5, p5, q5, rfl, rfl, rfl, h5, r5⟩ := trodAll_cons r4
  obtain ⟨v6, vs6, d6, ds6, p6, q6, rfl, rfl, rfl, h6, r6⟩ := trodAll_cons r5
  obtain ⟨v7, vs7, d7, ds7, p7, q7, rfl, rfl, rfl, h7, r7⟩ := trodAll_cons r6
  obtain ⟨rfl, rfl, rfl⟩ := trodAll_nil r7
  obtain rfl : args = #[v0, v1, v2, v3, v4, v5, v6, v7] := by cases args; simp_all
  obtain ⟨rfl, rfl⟩ := trodVars_none hV
  obtain ⟨x0, rfl, rfl, rfl, w0⟩ := open_int Ybaf.underlying2 (hval 0 2 v0 rfl rfl) h0
  obtain ⟨x1, rfl, rfl, rfl, w1⟩ := open_int Ybaf.underlying2 (hval 1 2 v1 rfl rfl) h1
  obtain ⟨x2, rfl, rfl, rfl⟩ := open_bool Ybaf.underlying4 (hval 2 4 v2 rfl rfl) h2
  obtain ⟨x3, rfl, rfl, rfl⟩ := open_bool Ybaf.underlying4 (hval 3 4 v3 rfl rfl) h3
  obtain ⟨x4, rfl, rfl, rfl, w4⟩ := open_int Ybaf.underlying5 (hval 4 5 v4 rfl rfl) h4
  obtain ⟨x5, rfl, rfl, rfl, w5⟩ := open_int Ybaf.underlying5 (hval 5 5 v5 rfl rfl) h5
  obtain ⟨x6, rfl, rfl, rfl, w6⟩ := open_int Ybaf.underlying5 (hval 6 5 v6 rfl rfl) h6
  obtain ⟨a7, len7, cap7, rfl⟩ := okWide_slice Ybaf.underlying22 (hval 7 22 v7 rfl rfl)
  have lt7 : ∀ x ∈ p7, x.block < W.heap.size := by obtain ⟨m, hm⟩ := h7; exact DataW.trod_lt m _ _ _ hm
  obtain ⟨Z, e7⟩ : ∃ Z, Bytes W a7 len7 Z := by obtain ⟨m, hm⟩ := h7; exact bytes_of (by simpa [Value.cells] using hm)
  obtain ⟨n4, rfl, l4⟩ := nat_of_u8 (u8_bounds w4)
  obtain ⟨n5, rfl, l5⟩ := nat_of_u8 (u8_bounds w5)
  obtain ⟨n6, rfl, l6⟩ := nat_of_u8 (u8_bounds w6)
  clear hA0 hval0
  refine (cfill_all F.told x0 x1 x2 x3 n4 n5 n6 a7 len7 cap7 Z W hF l4 l5 l6 e7 (i64_bounds w1).1 (i64_bounds w1).2).mono fun e W' ⟨he, bel⟩ => ?_
  subst he
  exact ⟨_, rfl, _, _, _, [], _, [], hW', trodAll_mk1 (shut_bool Ybaf.underlying4 _),
    trodAll_cons_mk (shut_int Ybaf.underlying2 w0) (trodAll_cons_mk (shut_int Ybaf.underlying2 w1) (trodAll_cons_mk (shut_bool Ybaf.underlying4 _) (trodAll_cons_mk (shut_bool Ybaf.underlying4 _) (trodAll_cons_mk (shut_int Ybaf.underlying5 w4) (trodAll_cons_mk (shut_int Ybaf.underlying5 w5) (trodAll_cons_mk (shut_int Ybaf.underlying5 w6)
      (trodAll_cons_mk (Below.trod CFill.laidOut (by kernel_rfl) (of_decide_eq_true (by kernel_rfl)) h7 bel lt7) trodAll_mk0))))))), rfl, bel.frame _, fun h => by cases h⟩

theorem CFill.stopsAre : Ybaf.pinned.checked.prog.stops = Rows.lawS0587CFillRow.stops := by kernel_rfl
theorem CFill.stopKnobsAre : Ybaf.pinned.checked.prog.stopKnobs = [] := by kernel_rfl
theorem CFill.quiet (os : Os) : Stop.quiet Ybaf.pinned.checked.prog os := by
  intro k hk
  rw [CFill.stopKnobsAre] at hk
  cases hk

theorem cfill_holds : Rows.LawS0587CFillToldSaid :=
  Claim7.holds_of_told_any (c := Rows.lawS0587CFillRow) 5 Ybaf.f5 _ _ [] _ _ _ (by kernel_rfl) rfl rfl rfl CFill.laidOut (by kernel_rfl) rfl ⟨rfl, rfl, rfl, rfl, rfl, rfl, rfl⟩ rfl rfl (by kernel_rfl) (by kernel_rfl) Ybaf.func5 (by kernel_rfl)
    (of_decide_eq_true (by kernel_rfl)) (of_decide_eq_true (by kernel_rfl)) CFill.stopsAre.symm rfl CFill.stopKnobsAre.symm (by kernel_rfl)
    (by kernel_rfl) (by kernel_rfl) (by kernel_rfl) (by kernel_rfl) (by kernel_rfl) (by kernel_rfl) (by kernel_rfl) (by kernel_rfl) (by kernel_rfl) rfl (by kernel_rfl) rfl rfl
    rfl rfl
    rfl (by kernel_rfl) (by kernel_rfl) (by kernel_rfl) (by decide) (by kernel_rfl)
    (OpenClaim.moreEntering_of (by kernel_rfl) (by kernel_rfl) (by kernel_rfl) (by kernel_rfl) (by kernel_rfl) (by kernel_rfl) (by kernel_rfl) (by kernel_rfl) (by kernel_rfl) (by kernel_rfl))
    ⟨_, WideRow.started_initial, CFill.quiet _⟩
    (fun os started _ H enc _ => cfill_lifted os started H enc)
end Go.Proofs.YbulkldcFmt
