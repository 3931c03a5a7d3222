/-
  No cell of these rows narrows 'for every input' (looked for: loops, veiled, ifaces, maps, wideKeys, modest, calm, conditions, laid).
  DERIVED. THE GIVEN ROWS OF THIS SEAT. 3 by the template 'for every input the law returns true; each argument reads behind the call as it read before'; 0 by the template 'total and deterministic' (their statements: YbulkldcFmtTotals.lean).
  GIVEN WITH THE SEED: the statements are not yours to turn. If you find one false, say at which input.
  Laid BY PROGRAM, IN A SANDBOX (cutbox-rows.mjs): the forced cells as the released guide's own fill.sh prints them over the translation f6ffb7aa87d9234c… (all of the seat's roots in one cut). By AI agents, Wed Nov 11 2026. No macro, syntax, notation, axiom, sorry.
-/
import Derived.Test.YbulkldcFmtChecked
import GoSem.Claim
import GoSem.ClaimJoined
import GoSem.ClaimMapViews
import Derived.JoinedTies
import Derived.KernelRfl
namespace Go.Proofs.YbulkldcFmt
/- THE CELL 'sum', in the pinned program and in every row, IS THE sha256 OF THE DUMP (.gsa) THAT YbulkldcFmtProg.lean LOADS. Nothing in Lean hashes anything: it is a label: what it is worth is what the hold of that sum in a sandbox is worth. -/
noncomputable def Ybaf.pinned : Pinned := { name := "ybulkldcfmt", sum := "f6ffb7aa87d9234c6a157a07083b2846ffc0db208f40ff12c789eaaecebd6744", checked := Ybaf.checked }
namespace Rows
def none {H : Type} : Left H := { results := [], args := [] }

/-- 'ledger.LawS0587AKeepsFirst': WHATEVER THE INPUT: true; the input reads as it did. -/
def lawS0587AKeepsFirstSpec : ChangeSpec := { name := "lawS0587AKeepsFirst", fn := fun _ => fun
  | [d1, d2, d3] => { results := [.lit (.bool true)], args := [d1, d2, d3] }
  | _ => none }
def lawS0587AKeepsFirstRow : OpenClaim := { program := "ybulkldcfmt", sum := "f6ffb7aa87d9234c6a157a07083b2846ffc0db208f40ff12c789eaaecebd6744", func := "example.com/tenure/tenure/pkg/ledger.LawS0587AKeepsFirst", spec := "lawS0587AKeepsFirst", stops := ["fmt.errorf, its operands' methods called", "fmt.Sprintf, its operands' methods called"], inPlace := ["fmt.errorf"], unfollowed := true, recurses := true, apart := false }
/-- NO THEOREM (fmt's text is open here; it may be false): for the released tool's asking of the row's closed facts alone. THE STATEMENT IS 'LawS0587AKeepsFirstToldSaid' (YbulkldcFmtCards.lean). -/
def LawS0587AKeepsFirstFormAsk : Prop := lawS0587AKeepsFirstRow.holds Ybaf.pinned (OpenSpec.ofChange lawS0587AKeepsFirstSpec)

/-- ITS FALSE NEIGHBOUR: 'it returns false'. Refute it at one input. -/
def lawS0587AKeepsFirstWrong : ChangeSpec := { name := "lawS0587AKeepsFirst", fn := fun _ => fun
  | [d1, d2, d3] => { results := [.lit (.bool false)], args := [d1, d2, d3] }
  | _ => none }
def LawS0587AKeepsFirstWrongFormAsk : Prop := lawS0587AKeepsFirstRow.holds Ybaf.pinned (OpenSpec.ofChange lawS0587AKeepsFirstWrong)

/-- 'ledger.LawS0587ANothingAfter': WHATEVER THE INPUT: true; the input reads as it did. -/
def lawS0587ANothingAfterSpec : ChangeSpec := { name := "lawS0587ANothingAfter", fn := fun _ => fun
  | [d1, d2] => { results := [.lit (.bool true)], args := [d1, d2] }
  | _ => none }
def lawS0587ANothingAfterRow : OpenClaim := { program := "ybulkldcfmt", sum := "f6ffb7aa87d9234c6a157a07083b2846ffc0db208f40ff12c789eaaecebd6744", func := "example.com/tenure/tenure/pkg/ledger.LawS0587ANothingAfter", spec := "lawS0587ANothingAfter", stops := ["fmt.errorf, its operands' methods called", "fmt.Sprintf, its operands' methods called"], inPlace := ["fmt.errorf"], unfollowed := true, recurses := true, named := ["encoding/binary.BigEndian"], apart := false }
/-- NO THEOREM (fmt's text is open here; it may be false): for the released tool's asking of the row's closed facts alone. THE STATEMENT IS 'LawS0587ANothingAfterToldSaid' (YbulkldcFmtCards.lean). -/
def LawS0587ANothingAfterFormAsk : Prop := lawS0587ANothingAfterRow.holds Ybaf.pinned (OpenSpec.ofChange lawS0587ANothingAfterSpec)

/-- ITS FALSE NEIGHBOUR: 'it returns false'. Refute it at one input. -/
def lawS0587ANothingAfterWrong : ChangeSpec := { name := "lawS0587ANothingAfter", fn := fun _ => fun
  | [d1, d2] => { results := [.lit (.bool false)], args := [d1, d2] }
  | _ => none }
def LawS0587ANothingAfterWrongFormAsk : Prop := lawS0587ANothingAfterRow.holds Ybaf.pinned (OpenSpec.ofChange lawS0587ANothingAfterWrong)

/-- 'group.LawS0587CFill': WHATEVER THE INPUT: true; the input reads as it did. -/
def lawS0587CFillSpec : ChangeSpec := { name := "lawS0587CFill", fn := fun _ => fun
  | [d1, d2, d3, d4, d5, d6, d7, d8] => { results := [.lit (.bool true)], args := [d1, d2, d3, d4, d5, d6, d7, d8] }
  | _ => none }
def lawS0587CFillRow : OpenClaim := { program := "ybulkldcfmt", sum := "f6ffb7aa87d9234c6a157a07083b2846ffc0db208f40ff12c789eaaecebd6744", func := "example.com/tenure/tenure/pkg/group.LawS0587CFill", spec := "lawS0587CFill", stops := ["fmt.errorf, its operands' methods called", "fmt.Sprintf, its operands' methods called"], inPlace := ["fmt.errorf", "fmt.Sprintf"], unfollowed := true, recurses := true, apart := false }
/-- NO THEOREM (fmt's text is open here; it may be false): for the released tool's asking of the row's closed facts alone. THE STATEMENT IS 'LawS0587CFillToldSaid' (YbulkldcFmtCards.lean). -/
def LawS0587CFillFormAsk : Prop := lawS0587CFillRow.holds Ybaf.pinned (OpenSpec.ofChange lawS0587CFillSpec)

/-- ITS FALSE NEIGHBOUR: 'it returns false'. Refute it at one input. -/
def lawS0587CFillWrong : ChangeSpec := { name := "lawS0587CFill", fn := fun _ => fun
  | [d1, d2, d3, d4, d5, d6, d7, d8] => { results := [.lit (.bool false)], args := [d1, d2, d3, d4, d5, d6, d7, d8] }
  | _ => none }
def LawS0587CFillWrongFormAsk : Prop := lawS0587CFillRow.holds Ybaf.pinned (OpenSpec.ofChange lawS0587CFillWrong)

end Rows
end Go.Proofs.YbulkldcFmt
