/-
  No cell of these rows narrows 'for every input' (looked for: loops, veiled, ifaces, maps, wideKeys, modest, calm, conditions, laid).
  DERIVED. THE GIVEN ROWS OF THIS SEAT. 5 by the template 'for every input the law returns true; each argument reads behind the call as it read before'; 0 by the template 'total and deterministic' (their statements: YbulkajukTotals.lean).
  GIVEN WITH THE SEED: the statements are not yours to turn. If you find one false, say at which input.
  Laid BY PROGRAM, IN A SANDBOX (cutbox-rows.mjs): the forced cells as the released guide's own fill.sh prints them over the translation 9d067684c26439d9… (all of the seat's roots in one cut). By AI agents, Wed Nov 11 2026. No macro, syntax, notation, axiom, sorry.
-/
import Derived.Test.YbulkajukChecked
import GoSem.Claim
import GoSem.ClaimJoined
import GoSem.ClaimMapViews
import Derived.JoinedTies
import Derived.KernelRfl
namespace Go.Proofs.Ybulkajuk
/- THE CELL 'sum', in the pinned program and in every row, IS THE sha256 OF THE DUMP (.gsa) THAT YbulkajukProg.lean LOADS. Nothing in Lean hashes anything: it is a label: what it is worth is what the hold of that sum in a sandbox is worth. -/
noncomputable def Yba.pinned : Pinned := { name := "ybulkajuk", sum := "9d067684c26439d9a8fe0ec4f7bd87c3910ec2602f79812284ebce1aa1cf83d5", checked := Yba.checked }
namespace Rows
def none {H : Type} : Left H := { results := [], args := [] }

/-- 'lazyrange.LawS1778AInts': WHATEVER THE INPUT: true; the input reads as it did. -/
def lawS1778AIntsSpec : ChangeSpec := { name := "lawS1778AInts", fn := fun _ => fun
  | [d] => { results := [.lit (.bool true)], args := [d] }
  | _ => none }
def lawS1778AIntsRow : OpenClaim := { program := "ybulkajuk", sum := "9d067684c26439d9a8fe0ec4f7bd87c3910ec2602f79812284ebce1aa1cf83d5", func := "lazyrange.example/lazyrange.LawS1778AInts", spec := "lawS1778AInts", unfollowed := true, recurses := true, apart := false }
def LawS1778AIntsSaid : Prop := lawS1778AIntsRow.holds Yba.pinned (OpenSpec.ofChange lawS1778AIntsSpec)

/-- ITS FALSE NEIGHBOUR: 'it returns false'. Refute it at one input. -/
def lawS1778AIntsWrong : ChangeSpec := { name := "lawS1778AInts", fn := fun _ => fun
  | [d] => { results := [.lit (.bool false)], args := [d] }
  | _ => none }
def LawS1778AIntsWrongFalsely : Prop := lawS1778AIntsRow.holds Yba.pinned (OpenSpec.ofChange lawS1778AIntsWrong)

/-- 'lazyrange.LawS1778AStrings': WHATEVER THE INPUT: true; the input reads as it did. -/
def lawS1778AStringsSpec : ChangeSpec := { name := "lawS1778AStrings", fn := fun _ => fun
  | [d] => { results := [.lit (.bool true)], args := [d] }
  | _ => none }
def lawS1778AStringsRow : OpenClaim := { program := "ybulkajuk", sum := "9d067684c26439d9a8fe0ec4f7bd87c3910ec2602f79812284ebce1aa1cf83d5", func := "lazyrange.example/lazyrange.LawS1778AStrings", spec := "lawS1778AStrings", unfollowed := true, recurses := true, apart := false }
def LawS1778AStringsSaid : Prop := lawS1778AStringsRow.holds Yba.pinned (OpenSpec.ofChange lawS1778AStringsSpec)

/-- ITS FALSE NEIGHBOUR: 'it returns false'. Refute it at one input. -/
def lawS1778AStringsWrong : ChangeSpec := { name := "lawS1778AStrings", fn := fun _ => fun
  | [d] => { results := [.lit (.bool false)], args := [d] }
  | _ => none }
def LawS1778AStringsWrongFalsely : Prop := lawS1778AStringsRow.holds Yba.pinned (OpenSpec.ofChange lawS1778AStringsWrong)

/-- 'lazyrange.LawS1778BSkipsPrefix': WHATEVER THE INPUT: true; the input reads as it did. -/
def lawS1778BSkipsPrefixSpec : ChangeSpec := { name := "lawS1778BSkipsPrefix", fn := fun _ => fun
  | [d1, d2, d3, d4] => { results := [.lit (.bool true)], args := [d1, d2, d3, d4] }
  | _ => none }
def lawS1778BSkipsPrefixRow : OpenClaim := { program := "ybulkajuk", sum := "9d067684c26439d9a8fe0ec4f7bd87c3910ec2602f79812284ebce1aa1cf83d5", func := "lazyrange.example/lazyrange.LawS1778BSkipsPrefix", spec := "lawS1778BSkipsPrefix", unfollowed := true, recurses := true, apart := false }
def LawS1778BSkipsPrefixSaid : Prop := lawS1778BSkipsPrefixRow.holds Yba.pinned (OpenSpec.ofChange lawS1778BSkipsPrefixSpec)

/-- ITS FALSE NEIGHBOUR: 'it returns false'. Refute it at one input. -/
def lawS1778BSkipsPrefixWrong : ChangeSpec := { name := "lawS1778BSkipsPrefix", fn := fun _ => fun
  | [d1, d2, d3, d4] => { results := [.lit (.bool false)], args := [d1, d2, d3, d4] }
  | _ => none }
def LawS1778BSkipsPrefixWrongFalsely : Prop := lawS1778BSkipsPrefixRow.holds Yba.pinned (OpenSpec.ofChange lawS1778BSkipsPrefixWrong)

/-- 'lazyrange.LawS1778CPrefix': WHATEVER THE INPUT: true; the input reads as it did. -/
def lawS1778CPrefixSpec : ChangeSpec := { name := "lawS1778CPrefix", fn := fun _ => fun
  | [d1, d2] => { results := [.lit (.bool true)], args := [d1, d2] }
  | _ => none }
def lawS1778CPrefixRow : OpenClaim := { program := "ybulkajuk", sum := "9d067684c26439d9a8fe0ec4f7bd87c3910ec2602f79812284ebce1aa1cf83d5", func := "lazyrange.example/lazyrange.LawS1778CPrefix", spec := "lawS1778CPrefix", unfollowed := true, recurses := true, apart := false }
def LawS1778CPrefixSaid : Prop := lawS1778CPrefixRow.holds Yba.pinned (OpenSpec.ofChange lawS1778CPrefixSpec)

/-- ITS FALSE NEIGHBOUR: 'it returns false'. Refute it at one input. -/
def lawS1778CPrefixWrong : ChangeSpec := { name := "lawS1778CPrefix", fn := fun _ => fun
  | [d1, d2] => { results := [.lit (.bool false)], args := [d1, d2] }
  | _ => none }
def LawS1778CPrefixWrongFalsely : Prop := lawS1778CPrefixRow.holds Yba.pinned (OpenSpec.ofChange lawS1778CPrefixWrong)

/-- 'lazyrange.LawS1778CEarlyStop': WHATEVER THE INPUT: true; the input reads as it did. -/
def lawS1778CEarlyStopSpec : ChangeSpec := { name := "lawS1778CEarlyStop", fn := fun _ => fun
  | [d1, d2, d3] => { results := [.lit (.bool true)], args := [d1, d2, d3] }
  | _ => none }
def lawS1778CEarlyStopRow : OpenClaim := { program := "ybulkajuk", sum := "9d067684c26439d9a8fe0ec4f7bd87c3910ec2602f79812284ebce1aa1cf83d5", func := "lazyrange.example/lazyrange.LawS1778CEarlyStop", spec := "lawS1778CEarlyStop", unfollowed := true, recurses := true, apart := false }
def LawS1778CEarlyStopSaid : Prop := lawS1778CEarlyStopRow.holds Yba.pinned (OpenSpec.ofChange lawS1778CEarlyStopSpec)

/-- ITS FALSE NEIGHBOUR: 'it returns false'. Refute it at one input. -/
def lawS1778CEarlyStopWrong : ChangeSpec := { name := "lawS1778CEarlyStop", fn := fun _ => fun
  | [d1, d2, d3] => { results := [.lit (.bool false)], args := [d1, d2, d3] }
  | _ => none }
def LawS1778CEarlyStopWrongFalsely : Prop := lawS1778CEarlyStopRow.holds Yba.pinned (OpenSpec.ofChange lawS1778CEarlyStopWrong)

end Rows
end Go.Proofs.Ybulkajuk
