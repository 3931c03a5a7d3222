/-
  seatTaken, depart, drop, close.
-/
import Derived.Test.YbulkldcFmtMore
namespace Go.Proofs.YbulkldcFmt
open Go.RowKit Go.Extern.Stop Go.Stop Go.Extern
set_option linter.unusedVariables false

set_option maxHeartbeats 400000 in
set_option maxRecDepth 100000 in
theorem seatTaken_any (F : Interp) (G : Nat) (s t : ByteArray) (w : World) (hF : F.answers w.tape) (h0 : w.cell? ⟨G, 0, none⟩ = some (.string s)) (h6 : w.cell? ⟨G, 6, none⟩ = some (.string t)) : Calls Ybaf.prog 31 #[.pointer (some ⟨G, 0, none⟩)] w (Bad w) := by
  go_enter Ybaf.func31, Ybaf.ntmps31
  go_wp2_with fail
  go_region_with (go_at_call 24; refine (errF F s t w.heap.size _ (by exact hF) (by go_simp) (by go_simp)).mono ?_; intro e w' hne; obtain ⟨b, rfl, hbel⟩ := newErr_bad hne (by first | exact (Below.refl _ w).alloc (Nat.le_refl _) _ | exact ((Below.refl _ w).alloc (Nat.le_refl _) _).drew | exact (Below.refl _ w).drew.alloc (Nat.le_refl _) _))
  all_goals
    go_wp2
    go_ret
    exact ⟨⟨_, rfl⟩, hbel⟩

set_option maxHeartbeats 400000 in
set_option maxRecDepth 100000 in
/-- depart, nobody leaving. -/
theorem depart_any (G : Nat) (h : Int) (w : World) (hl : w.cell? ⟨G, 16, none⟩ = some (.slice none 0 0)) : Calls Ybaf.prog 33 #[.pointer (some ⟨G, 0, none⟩), .int .i64 h] w fun e w' => e = .returned (.tuple #[]) ∧ w' = w := by
  go_enter Ybaf.func33, Ybaf.ntmps33
  go_wp2_with fail
  go_loopg [] 1 (fun k wr => k = 1 ∧ wr = w)
  case atStart => exact ⟨rfl, rfl⟩
  case round =>
    obtain ⟨rfl, hw⟩ := hrel
    rw [hw]
    clear hw
    go_wp2_with fail
    go_end0
    exact ⟨rfl, rfl⟩


/-- 'delete(m, k)' at the operation, k there. -/
theorem wpList_mapDel {w : World} {ops : Array Oper} {rest : List Oper} {o : Oper} {a : Act} {Q : Exit → Act → World → Prop} (hg : o.guard = none) (m x : Operand) (t : TypeId) (hop : o.op = Op.call { callee := Callee.builtin Builtin.delete, args := #[m, x], argTypes := #[t, 9] }) (e : TypeId) (ht : Ybaf.prog.underlying t = some (.map 9 e))
    (b n : Nat) (f : ByteArray → Option Value) (s : ByteArray) (hm : a.eval m = .map (some b)) (hx : a.eval x = .string s) (h : MapAt w b (n + 1) f) (hs : s.size ≤ maxLen) (hf : (f s).isSome = true)
    (hK : ∀ w', MapAt w' b n (fdel f s) → w.grownBy w' (some b) → wpList Ybaf.prog ops Q rest (a.put o.dst (.tuple #[])) w') : wpList Ybaf.prog ops Q (o :: rest) a w := by
  refine wpList_plain hg fun K' hK' => ?_
  obtain ⟨w', hrun, r1, r2⟩ := h.drop ht hs hf o.type
  unfold Oper.wp execOp
  simp only [hop, resolve, invoke, builtin, Sem.run_bind, Sem.run_pure, Result.andThen_ok, List.map_toArray, List.map_cons, List.map_nil, hm, hx, hrun]
  exact hK' _ _ (hK w' r1 r2)

/-- What drop leaves of a roster of one. -/
def Dropped (b o M n : Nat) (f : ByteArray → Option Value) (s : ByteArray) (w w' : World) : Prop :=
  MapAt w' M n (fdel f s) ∧ w'.cell? ⟨b, o + 2, none⟩ = some (.map (some M)) ∧ Keeps (fun k => k = b ∨ k = M) w w' ∧ (∀ j, j ≠ o → j ≠ o + 1 → w'.cell? ⟨b, j, none⟩ = w.cell? ⟨b, j, none⟩)

set_option maxHeartbeats 1000000 in
set_option maxRecDepth 100000 in
/-- drop, of a roster of one. -/
theorem drop_any (b o M n l : Nat) (f : ByteArray → Option Value) (u0 u1 : Value) (w : World) (s : ByteArray) (hs : s.size ≤ maxLen) (h0 : w.cell? ⟨b, o, none⟩ = some u0) (h1 : w.cell? ⟨b, o + 1, none⟩ = some u1) (h2 : w.cell? ⟨b, o + 2, none⟩ = some (.map (some M))) (hm : MapAt w M (n + 1) f) (hl : f s = some (ptr l)) (l1 : w.cell? ⟨l, 1, none⟩ = some (.pointer none)) (l2 : w.cell? ⟨l, 2, none⟩ = some (.pointer none)) (hf : ∀ j, w.frozen? ⟨b, j, none⟩ = false) (hbl : b ≠ l) :
    Calls Ybaf.prog 59 #[.pointer (some ⟨b, o, none⟩), .string s] w fun e w' => e = .returned (.tuple #[]) ∧ Dropped b o M n f s w w' := by
  have hlk := (hm.look Ybaf.underlying52 (z := .pointer none) (by kernel_rfl) hs).1
  rw [hl] at hlk
  unfold ptr at hlk
  simp only [Option.getD_some, Option.isSome_some] at hlk
  have hb : b < w.heap.size := World.block_lt_of_cell? w _ h0
  have hll : l < w.heap.size := World.block_lt_of_cell? w _ l1
  have hMb : M ≠ b := fun e => by subst e; obtain ⟨D, ⟨es, clock, hh, _⟩, _⟩ := hm; simp [World.cell?, hh] at h0
  have hMl : M ≠ l := fun e => by subst e; obtain ⟨D, ⟨es, clock, hh, _⟩, _⟩ := hm; simp [World.cell?, hh] at l1
  have hfs : (f s).isSome = true := by rw [hl]; rfl
  have HM := hide hm
  have HL := hide hl
  clear hm hl
  go_enter Ybaf.func59, Ybaf.ntmps59
  go_wp2_with (first | (refine wpList_mapDel rfl (.tmp 20) (.tmp 21) 52 rfl 51 Ybaf.underlying52 M n f s rfl rfl HM.out hs hfs ?_; intro w1 hm1 hg1; have k0 : w1.cell? ⟨b, o, none⟩ = some u0 := hg1.cell h0 (by intro e; injection e with e; exact hMb e.symm); have k1 : w1.cell? ⟨b, o + 1, none⟩ = some u1 := hg1.cell h1 (by intro e; injection e with e; exact hMb e.symm); have k2 : w1.cell? ⟨l, 1, none⟩ = some (.pointer none) := hg1.cell l1 (by intro e; injection e with e; exact hMl e.symm); have k3 : w1.cell? ⟨l, 2, none⟩ = some (.pointer none) := hg1.cell l2 (by intro e; injection e with e; exact hMl e.symm); have k4 : w1.frozen? ⟨b, o, none⟩ = false := (grown_frozen hg1 (by exact hb) (by intro e; injection e with e; exact hMb e.symm)).trans (hf _); have k5 : w1.frozen? ⟨b, o + 1, none⟩ = false := (grown_frozen hg1 (by exact hb) (by intro e; injection e with e; exact hMb e.symm)).trans (hf _); clear h0 h1 l1 l2 hlk))
  go_end0
  have hk1 : Keeps (fun k => k = b ∨ k = M) w w1 := (Keeps.refl _ w).grown hg1 (fun k e => Or.inl (Or.inr (by injection e with e; exact e.symm)))
  have old : ∀ j, w1.cell? ⟨b, j, none⟩ = w.cell? ⟨b, j, none⟩ := fun j => World.cell?_of_block (hg1.block b hb (by intro e; injection e with e; exact hMb e.symm))
  refine ⟨rfl, ?_, ?_, ?_, fun j j0 j1 => ?_⟩
  · refine hm1.of_block ?_
    rw [Below.heap_setCell _ _ _ _ (by exact hMb), Below.heap_setCell _ _ _ _ (by exact hMb)]
  · rw [cell_set_ne (Or.inr (by omega)), cell_set_ne (Or.inr (by omega)), old]; exact h2
  · exact Keeps.setCell (S := fun k => k = b ∨ k = M) (p := ⟨b, o + 1, none⟩) (Keeps.setCell (S := fun k => k = b ∨ k = M) (p := ⟨b, o, none⟩) hk1 (Or.inl rfl) _) (Or.inl rfl) _
  · rw [cell_set_ne (Or.inr (Ne.symm j1)), cell_set_ne (Or.inr (Ne.symm j0)), old]
end Go.Proofs.YbulkldcFmt
