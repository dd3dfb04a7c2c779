/-
  No cell of these rows narrows 'for every input' (looked for: loops, veiled, ifaces, maps, wideKeys, modest, calm, conditions, laid).
  DERIVED. THE GIVEN ROWS OF THIS SEAT. 4 by the template 'for every input the law returns true; each argument reads behind the call as it read before'; 0 by the template 'total and deterministic' (their statements: YbulkajsuTotals.lean).
  GIVEN WITH THE SEED: the statements are not yours to turn. If you find one false, say at which input.
  Laid BY PROGRAM, IN A SANDBOX (cutbox-rows.mjs): the forced cells as the released guide's own fill.sh prints them over the translation 746442fe2e7c916e… (all of the seat's roots in one cut). By AI agents, Wed Nov 11 2026. No macro, syntax, notation, axiom, sorry.
-/
import Derived.Test.YbulkajsuChecked
import GoSem.Claim
import GoSem.ClaimJoined
import GoSem.ClaimMapViews
import Derived.JoinedTies
import Derived.KernelRfl
namespace Go.Proofs.Ybulkajsu
/- THE CELL 'sum', in the pinned program and in every row, IS THE sha256 OF THE DUMP (.gsa) THAT YbulkajsuProg.lean LOADS. Nothing in Lean hashes anything: it is a label: what it is worth is what the hold of that sum in a sandbox is worth. -/
noncomputable def Yba.pinned : Pinned := { name := "ybulkajsu", sum := "746442fe2e7c916e5b08a4d9c97f8a40b45ee0a0ed968b6107eb6307d41760ed", checked := Yba.checked }
namespace Rows
def none {H : Type} : Left H := { results := [], args := [] }

/-- 'sim.LawS1775ASum': WHATEVER THE INPUT: true; the input reads as it did. -/
def lawS1775ASumSpec : ChangeSpec := { name := "lawS1775ASum", fn := fun _ => fun
  | [d1, d2] => { results := [.lit (.bool true)], args := [d1, d2] }
  | _ => none }
def lawS1775ASumRow : OpenClaim := { program := "ybulkajsu", sum := "746442fe2e7c916e5b08a4d9c97f8a40b45ee0a0ed968b6107eb6307d41760ed", func := "example.com/deltoid/deltoid/internal/sim.LawS1775ASum", spec := "lawS1775ASum", apart := false }
def LawS1775ASumSaid : Prop := lawS1775ASumRow.holds Yba.pinned (OpenSpec.ofChange lawS1775ASumSpec)

/-- ITS FALSE NEIGHBOUR: 'it returns false'. Refute it at one input. -/
def lawS1775ASumWrong : ChangeSpec := { name := "lawS1775ASum", fn := fun _ => fun
  | [d1, d2] => { results := [.lit (.bool false)], args := [d1, d2] }
  | _ => none }
def LawS1775ASumWrongFalsely : Prop := lawS1775ASumRow.holds Yba.pinned (OpenSpec.ofChange lawS1775ASumWrong)

/-- 'sim.LawS1775ASeq': WHATEVER THE INPUT: true; the input reads as it did. -/
def lawS1775ASeqSpec : ChangeSpec := { name := "lawS1775ASeq", fn := fun _ => fun
  | [d1, d2, d3] => { results := [.lit (.bool true)], args := [d1, d2, d3] }
  | _ => none }
def lawS1775ASeqRow : OpenClaim := { program := "ybulkajsu", sum := "746442fe2e7c916e5b08a4d9c97f8a40b45ee0a0ed968b6107eb6307d41760ed", func := "example.com/deltoid/deltoid/internal/sim.LawS1775ASeq", spec := "lawS1775ASeq", apart := false }
def LawS1775ASeqSaid : Prop := lawS1775ASeqRow.holds Yba.pinned (OpenSpec.ofChange lawS1775ASeqSpec)

/-- ITS FALSE NEIGHBOUR: 'it returns false'. Refute it at one input. -/
def lawS1775ASeqWrong : ChangeSpec := { name := "lawS1775ASeq", fn := fun _ => fun
  | [d1, d2, d3] => { results := [.lit (.bool false)], args := [d1, d2, d3] }
  | _ => none }
def LawS1775ASeqWrongFalsely : Prop := lawS1775ASeqRow.holds Yba.pinned (OpenSpec.ofChange lawS1775ASeqWrong)

/-- 'deltoid.LawS1775CExact': WHATEVER THE INPUT: true; the input reads as it did. -/
def lawS1775CExactSpec : ChangeSpec := { name := "lawS1775CExact", fn := fun _ => fun
  | [d1, d2, d3, d4] => { results := [.lit (.bool true)], args := [d1, d2, d3, d4] }
  | _ => none }
def lawS1775CExactRow : OpenClaim := { program := "ybulkajsu", sum := "746442fe2e7c916e5b08a4d9c97f8a40b45ee0a0ed968b6107eb6307d41760ed", func := "example.com/deltoid/deltoid.LawS1775CExact", spec := "lawS1775CExact", unfollowed := true, recurses := true, apart := false }
def LawS1775CExactSaid : Prop := lawS1775CExactRow.holds Yba.pinned (OpenSpec.ofChange lawS1775CExactSpec)

/-- ITS FALSE NEIGHBOUR: 'it returns false'. Refute it at one input. -/
def lawS1775CExactWrong : ChangeSpec := { name := "lawS1775CExact", fn := fun _ => fun
  | [d1, d2, d3, d4] => { results := [.lit (.bool false)], args := [d1, d2, d3, d4] }
  | _ => none }
def LawS1775CExactWrongFalsely : Prop := lawS1775CExactRow.holds Yba.pinned (OpenSpec.ofChange lawS1775CExactWrong)

/-- 'deltoid.LawS1775CJoin': WHATEVER THE INPUT: true; the input reads as it did. -/
def lawS1775CJoinSpec : ChangeSpec := { name := "lawS1775CJoin", fn := fun _ => fun
  | [d1, d2, d3, d4] => { results := [.lit (.bool true)], args := [d1, d2, d3, d4] }
  | _ => none }
def lawS1775CJoinRow : OpenClaim := { program := "ybulkajsu", sum := "746442fe2e7c916e5b08a4d9c97f8a40b45ee0a0ed968b6107eb6307d41760ed", func := "example.com/deltoid/deltoid.LawS1775CJoin", spec := "lawS1775CJoin", unfollowed := true, recurses := true, apart := false }
def LawS1775CJoinSaid : Prop := lawS1775CJoinRow.holds Yba.pinned (OpenSpec.ofChange lawS1775CJoinSpec)

/-- ITS FALSE NEIGHBOUR: 'it returns false'. Refute it at one input. -/
def lawS1775CJoinWrong : ChangeSpec := { name := "lawS1775CJoin", fn := fun _ => fun
  | [d1, d2, d3, d4] => { results := [.lit (.bool false)], args := [d1, d2, d3, d4] }
  | _ => none }
def LawS1775CJoinWrongFalsely : Prop := lawS1775CJoinRow.holds Yba.pinned (OpenSpec.ofChange lawS1775CJoinWrong)

end Rows
end Go.Proofs.Ybulkajsu
