import Derived.Test.YbulklfgPush
namespace Go.Proofs.Ybulklfg
open Go.RowKit
set_option linter.unusedVariables false

/-- What clear leaves: no other block turned; the row, cut to nothing, still owned. -/
def Cleared (w w1 : World) (B : Nat) (v : Value) : Prop :=
  Keeps (fun k => v.ownBlock = some k) w w1 ∧ ∀ a n cap, v = .slice a n cap → Owns w1 B (.slice a 0 cap) []

theorem zeros_one (n : Nat) : ∀ u ∈ (Builtin.zeroCells #[Value.int .i64 0, Value.int .i64 0] n).toList, u.oneCell' = true := by
  intro u hu
  simp [Builtin.zeroCells] at hu
  obtain ⟨i, hi, rfl⟩ := hu
  have h2 : i % 2 < 2 := Nat.mod_lt _ (by decide)
  have : i % 2 = 0 ∨ i % 2 = 1 := by omega
  rcases this with h | h <;> rw [h] <;> rfl

theorem run_clear (w : World) (ty : TypeId) (B : Nat) (v : Value) (l : List Item) (ho : Owns w B v l) :
    ∃ w1, (Builtin.clear_ #[58] ty #[v]).run Yba.prog w = .ok (.tuple #[]) w1 ∧ Cleared w w1 B v := by
  obtain ⟨hx, ⟨rfl, h0⟩ | ⟨g, cap, cur, rfl, hBg, hgw, hnc, hm, hcs, htk⟩⟩ := id ho
  · refine ⟨w, ?_, Keeps.refl _ _, fun a n cap e => ?_⟩
    · simp [Builtin.clear_, run_underlying Yba.underlying58, Result.andThen]
    · cases e
      exact Owns.nil _ _
  · by_cases hz : l.length = 0
    · refine ⟨w, ?_, Keeps.refl _ _, fun a n cap e => ?_⟩
      · rw [hz]
        simp [Builtin.clear_, run_underlying Yba.underlying58, Result.andThen]
      · cases e
        have h1 := ho.shorter rfl (k := 0) (by omega)
        simpa using h1
    · obtain ⟨m, hmm⟩ : ∃ m, l.length = m + 1 := ⟨l.length - 1, by omega⟩
      have hsz : (Builtin.zeroCells #[Value.int .i64 0, Value.int .i64 0] (m + 1)).toList.length = (m + 1) * 2 := by simp [size_zeroCells]
      have hst := run_storeCells_at (P := Yba.prog) g 0 66 (Builtin.zeroCells #[Value.int .i64 0, Value.int .i64 0] (m + 1)).toList 0 cur w hgw (by rw [hsz]; omega) (zeros_one _)
      obtain ⟨cur', hcur'⟩ : ∃ cur' : Array Value, cur' = (List.take (0 + 0) cur.toList ++ (Builtin.zeroCells #[Value.int .i64 0, Value.int .i64 0] (m + 1)).toList ++ List.drop (0 + 0 + (Builtin.zeroCells #[Value.int .i64 0, Value.int .i64 0] (m + 1)).toList.length) cur.toList).toArray := ⟨_, rfl⟩
      have hsize : cur'.size = cur.size := by
        rw [hcur']
        simp only [List.size_toArray, List.length_append, List.length_take, List.length_drop, hsz]
        simp
        omega
      rw [← hcur'] at hst
      refine ⟨w.setRow g cur', ?_, ?_, fun a n cap' e => ?_⟩
      · rw [hmm]
        simp [Builtin.clear_, run_underlying Yba.underlying58, Result.andThen, Yba.zeroValue66]
        rw [show (Value.agg #[Value.int .i64 0, Value.int .i64 0]).cells = #[Value.int .i64 0, Value.int .i64 0] from rfl, hst]
      · exact ⟨rfl, rfl, rfl, by simp, fun k hk hs => setRow_other w g k _ (fun e => hs (by rw [e]; rfl))⟩
      · cases e
        refine ⟨by simp [flat_nil], Or.inr ⟨g, cap, cur', rfl, hBg, setRow_heap w g cur _ 66 _ hgw, by simp, hm, by omega, by simp [flat_nil]⟩⟩

theorem wpList_clear {ops : Array Oper} {rest : List Oper} {w : World} {o : Oper} {a : Act} {Q : Exit → Act → World → Prop} (hgd : o.guard = none) (s : Operand) (ho : o.op = .call { callee := .builtin .clear, args := #[s], argTypes := #[58] })
    (B : Nat) (v : Value) (l : List Item) (hs : a.eval s = v) (hown : Owns w B v l)
    (h : ∀ w1, Cleared w w1 B v → wpList Yba.prog ops Q rest (a.put o.dst (.tuple #[])) w1) : wpList Yba.prog ops Q (o :: rest) a w :=
  wpList_plain hgd fun _ hK => by
    obtain ⟨w1, hr, h2⟩ := run_clear w o.type B v l hown
    unfold Oper.wp execOp
    simp only [ho, resolve, invoke, builtin, Sem.run_bind, Sem.run_pure, Result.andThen_ok, List.map_toArray, List.map_cons, List.map_nil, hs, hr]
    exact hK _ _ (h w1 h2)
end Go.Proofs.Ybulklfg
