/-
  No cell of these rows narrows 'for every input' (looked for: loops, veiled, ifaces, maps, wideKeys, modest, calm, conditions, laid).
  DERIVED. THE GIVEN ROWS OF THIS SEAT. 4 by the template 'for every input the law returns true; each argument reads behind the call as it read before'; 0 by the template 'total and deterministic' (their statements: YbulklfuTotals.lean).
  GIVEN WITH THE SEED: the statements are not yours to turn. If you find one false, say at which input.
  Laid BY PROGRAM, IN A SANDBOX (cutbox-rows.mjs): the forced cells as the released guide's own fill.sh prints them over the translation de3b2e9c5658ddf9… (all of the seat's roots in one cut). By AI agents, Wed Nov 11 2026. No macro, syntax, notation, axiom, sorry.
-/
import Derived.Test.YbulklfuChecked
import GoSem.Claim
import GoSem.ClaimJoined
import GoSem.ClaimMapViews
import Derived.JoinedTies
import Derived.KernelRfl
namespace Go.Proofs.Ybulklfu
/- THE CELL 'sum', in the pinned program and in every row, IS THE sha256 OF THE DUMP (.gsa) THAT YbulklfuProg.lean LOADS. Nothing in Lean hashes anything: it is a label: what it is worth is what the hold of that sum in a sandbox is worth. -/
noncomputable def Yba.pinned : Pinned := { name := "ybulklfu", sum := "de3b2e9c5658ddf961b8c5c99145223471bf1fd67758fb721b12e56518997244", checked := Yba.checked }
namespace Rows
def none {H : Type} : Left H := { results := [], args := [] }

/-- 'causant.LawS0592BExact': WHATEVER THE INPUT: true; the input reads as it did. -/
def lawS0592BExactSpec : ChangeSpec := { name := "lawS0592BExact", fn := fun _ => fun
  | [d1, d2, d3, d4, d5] => { results := [.lit (.bool true)], args := [d1, d2, d3, d4, d5] }
  | _ => none }
def lawS0592BExactRow : OpenClaim := { program := "ybulklfu", sum := "de3b2e9c5658ddf961b8c5c99145223471bf1fd67758fb721b12e56518997244", func := "example.com/causant/causant.LawS0592BExact", spec := "lawS0592BExact", apart := false }
def LawS0592BExactSaid : Prop := lawS0592BExactRow.holds Yba.pinned (OpenSpec.ofChange lawS0592BExactSpec)

/-- ITS FALSE NEIGHBOUR: 'it returns false'. Refute it at one input. -/
def lawS0592BExactWrong : ChangeSpec := { name := "lawS0592BExact", fn := fun _ => fun
  | [d1, d2, d3, d4, d5] => { results := [.lit (.bool false)], args := [d1, d2, d3, d4, d5] }
  | _ => none }
def LawS0592BExactWrongFalsely : Prop := lawS0592BExactRow.holds Yba.pinned (OpenSpec.ofChange lawS0592BExactWrong)

/-- 'causant.LawS0592BLaid': WHATEVER THE INPUT: true; the input reads as it did. -/
def lawS0592BLaidSpec : ChangeSpec := { name := "lawS0592BLaid", fn := fun _ => fun
  | [d1, d2, d3, d4] => { results := [.lit (.bool true)], args := [d1, d2, d3, d4] }
  | _ => none }
def lawS0592BLaidRow : OpenClaim := { program := "ybulklfu", sum := "de3b2e9c5658ddf961b8c5c99145223471bf1fd67758fb721b12e56518997244", func := "example.com/causant/causant.LawS0592BLaid", spec := "lawS0592BLaid", apart := false }
def LawS0592BLaidSaid : Prop := lawS0592BLaidRow.holds Yba.pinned (OpenSpec.ofChange lawS0592BLaidSpec)

/-- ITS FALSE NEIGHBOUR: 'it returns false'. Refute it at one input. -/
def lawS0592BLaidWrong : ChangeSpec := { name := "lawS0592BLaid", fn := fun _ => fun
  | [d1, d2, d3, d4] => { results := [.lit (.bool false)], args := [d1, d2, d3, d4] }
  | _ => none }
def LawS0592BLaidWrongFalsely : Prop := lawS0592BLaidRow.holds Yba.pinned (OpenSpec.ofChange lawS0592BLaidWrong)

/-- 'causant.LawS0592CEvents': WHATEVER THE INPUT: true; the input reads as it did. -/
def lawS0592CEventsSpec : ChangeSpec := { name := "lawS0592CEvents", fn := fun _ => fun
  | [d1, d2] => { results := [.lit (.bool true)], args := [d1, d2] }
  | _ => none }
def lawS0592CEventsRow : OpenClaim := { program := "ybulklfu", sum := "de3b2e9c5658ddf961b8c5c99145223471bf1fd67758fb721b12e56518997244", func := "example.com/causant/causant.LawS0592CEvents", spec := "lawS0592CEvents", unfollowed := true, recurses := true, apart := false }
def LawS0592CEventsSaid : Prop := lawS0592CEventsRow.holds Yba.pinned (OpenSpec.ofChange lawS0592CEventsSpec)

/-- ITS FALSE NEIGHBOUR: 'it returns false'. Refute it at one input. -/
def lawS0592CEventsWrong : ChangeSpec := { name := "lawS0592CEvents", fn := fun _ => fun
  | [d1, d2] => { results := [.lit (.bool false)], args := [d1, d2] }
  | _ => none }
def LawS0592CEventsWrongFalsely : Prop := lawS0592CEventsRow.holds Yba.pinned (OpenSpec.ofChange lawS0592CEventsWrong)

/-- 'causant.LawS0592COwnClock': WHATEVER THE INPUT: true; the input reads as it did. -/
def lawS0592COwnClockSpec : ChangeSpec := { name := "lawS0592COwnClock", fn := fun _ => fun
  | [d1, d2] => { results := [.lit (.bool true)], args := [d1, d2] }
  | _ => none }
def lawS0592COwnClockRow : OpenClaim := { program := "ybulklfu", sum := "de3b2e9c5658ddf961b8c5c99145223471bf1fd67758fb721b12e56518997244", func := "example.com/causant/causant.LawS0592COwnClock", spec := "lawS0592COwnClock", unfollowed := true, recurses := true, apart := false }
def LawS0592COwnClockSaid : Prop := lawS0592COwnClockRow.holds Yba.pinned (OpenSpec.ofChange lawS0592COwnClockSpec)

/-- ITS FALSE NEIGHBOUR: 'it returns false'. Refute it at one input. -/
def lawS0592COwnClockWrong : ChangeSpec := { name := "lawS0592COwnClock", fn := fun _ => fun
  | [d1, d2] => { results := [.lit (.bool false)], args := [d1, d2] }
  | _ => none }
def LawS0592COwnClockWrongFalsely : Prop := lawS0592COwnClockRow.holds Yba.pinned (OpenSpec.ofChange lawS0592COwnClockWrong)

end Rows
end Go.Proofs.Ybulklfu
