/-
  No cell of these rows narrows 'for every input' (looked for: loops, veiled, ifaces, maps, wideKeys, modest, calm, conditions, laid).
  DERIVED. THE GIVEN ROWS OF THIS SEAT. 3 by the template 'for every input the law returns true; each argument reads behind the call as it read before'; 0 by the template 'total and deterministic' (their statements: YbulklfgTotals.lean).
  GIVEN WITH THE SEED: the statements are not yours to turn. If you find one false, say at which input.
  Laid BY PROGRAM, IN A SANDBOX (cutbox-rows.mjs): the forced cells as the released guide's own fill.sh prints them over the translation d49a3b29387bdc25… (all of the seat's roots in one cut). By AI agents, Wed Nov 11 2026. No macro, syntax, notation, axiom, sorry.
-/
import Derived.Test.YbulklfgChecked
import GoSem.Claim
import GoSem.ClaimJoined
import GoSem.ClaimMapViews
import Derived.JoinedTies
import Derived.KernelRfl
namespace Go.Proofs.Ybulklfg
/- THE CELL 'sum', in the pinned program and in every row, IS THE sha256 OF THE DUMP (.gsa) THAT YbulklfgProg.lean LOADS. Nothing in Lean hashes anything: it is a label: what it is worth is what the hold of that sum in a sandbox is worth. -/
noncomputable def Yba.pinned : Pinned := { name := "ybulklfg", sum := "d49a3b29387bdc254cadc2c1964f617cdb14ddfcfeb07a2eefef21a6e0755e67", checked := Yba.checked }
namespace Rows
def none {H : Type} : Left H := { results := [], args := [] }

/-- 'engine.LawS0591ASpread': WHATEVER THE INPUT: true; the input reads as it did. -/
def lawS0591ASpreadSpec : ChangeSpec := { name := "lawS0591ASpread", fn := fun _ => fun
  | [d1, d2, d3, d4] => { results := [.lit (.bool true)], args := [d1, d2, d3, d4] }
  | _ => none }
def lawS0591ASpreadRow : OpenClaim := { program := "ybulklfg", sum := "d49a3b29387bdc254cadc2c1964f617cdb14ddfcfeb07a2eefef21a6e0755e67", func := "example.com/tempocast/tempocast/internal/engine.LawS0591ASpread", spec := "lawS0591ASpread", plainKeys := false, apart := false }
def LawS0591ASpreadSaid : Prop := lawS0591ASpreadRow.holds Yba.pinned (OpenSpec.ofChange lawS0591ASpreadSpec)

/-- ITS FALSE NEIGHBOUR: 'it returns false'. Refute it at one input. -/
def lawS0591ASpreadWrong : ChangeSpec := { name := "lawS0591ASpread", fn := fun _ => fun
  | [d1, d2, d3, d4] => { results := [.lit (.bool false)], args := [d1, d2, d3, d4] }
  | _ => none }
def LawS0591ASpreadWrongFalsely : Prop := lawS0591ASpreadRow.holds Yba.pinned (OpenSpec.ofChange lawS0591ASpreadWrong)

/-- 'engine.LawS0591AFields': WHATEVER THE INPUT: true; the input reads as it did. -/
def lawS0591AFieldsSpec : ChangeSpec := { name := "lawS0591AFields", fn := fun _ => fun
  | [d1, d2, d3, d4, d5, d6, d7] => { results := [.lit (.bool true)], args := [d1, d2, d3, d4, d5, d6, d7] }
  | _ => none }
def lawS0591AFieldsRow : OpenClaim := { program := "ybulklfg", sum := "d49a3b29387bdc254cadc2c1964f617cdb14ddfcfeb07a2eefef21a6e0755e67", func := "example.com/tempocast/tempocast/internal/engine.LawS0591AFields", spec := "lawS0591AFields", plainKeys := false, apart := false }
def LawS0591AFieldsSaid : Prop := lawS0591AFieldsRow.holds Yba.pinned (OpenSpec.ofChange lawS0591AFieldsSpec)

/-- ITS FALSE NEIGHBOUR: 'it returns false'. Refute it at one input. -/
def lawS0591AFieldsWrong : ChangeSpec := { name := "lawS0591AFields", fn := fun _ => fun
  | [d1, d2, d3, d4, d5, d6, d7] => { results := [.lit (.bool false)], args := [d1, d2, d3, d4, d5, d6, d7] }
  | _ => none }
def LawS0591AFieldsWrongFalsely : Prop := lawS0591AFieldsRow.holds Yba.pinned (OpenSpec.ofChange lawS0591AFieldsWrong)

/-- 'queue.LawS0591BPriorityQueue': WHATEVER THE INPUT: true; the input reads as it did. -/
def lawS0591BPriorityQueueSpec : ChangeSpec := { name := "lawS0591BPriorityQueue", fn := fun _ => fun
  | [d1, d2] => { results := [.lit (.bool true)], args := [d1, d2] }
  | _ => none }
def lawS0591BPriorityQueueRow : OpenClaim := { program := "ybulklfg", sum := "d49a3b29387bdc254cadc2c1964f617cdb14ddfcfeb07a2eefef21a6e0755e67", func := "example.com/tempocast/tempocast/internal/queue.LawS0591BPriorityQueue", spec := "lawS0591BPriorityQueue", unfollowed := true, recurses := true, plainKeys := false, apart := false }
def LawS0591BPriorityQueueSaid : Prop := lawS0591BPriorityQueueRow.holds Yba.pinned (OpenSpec.ofChange lawS0591BPriorityQueueSpec)

/-- ITS FALSE NEIGHBOUR: 'it returns false'. Refute it at one input. -/
def lawS0591BPriorityQueueWrong : ChangeSpec := { name := "lawS0591BPriorityQueue", fn := fun _ => fun
  | [d1, d2] => { results := [.lit (.bool false)], args := [d1, d2] }
  | _ => none }
def LawS0591BPriorityQueueWrongFalsely : Prop := lawS0591BPriorityQueueRow.holds Yba.pinned (OpenSpec.ofChange lawS0591BPriorityQueueWrong)

end Rows
end Go.Proofs.Ybulklfg
