/-
  No cell of these rows narrows 'for every input' (looked for: loops, veiled, ifaces, maps, wideKeys, modest, calm, conditions, laid).
  DERIVED. THE GIVEN ROWS OF THIS SEAT. 4 by the template 'for every input the law returns true; each argument reads behind the call as it read before'; 0 by the template 'total and deterministic' (their statements: YbulkcqtkTotals.lean).
  GIVEN WITH THE SEED: the statements are not yours to turn. If you find one false, say at which input.
  Laid BY PROGRAM, IN A SANDBOX (cutbox-rows.mjs): the forced cells as the released guide's own fill.sh prints them over the translation caced7d374f46c6c… (all of the seat's roots in one cut). By AI agents, Wed Nov 11 2026. No macro, syntax, notation, axiom, sorry.
-/
import Derived.Test.YbulkcqtkChecked
import GoSem.Claim
import GoSem.ClaimJoined
import GoSem.ClaimMapViews
import Derived.JoinedTies
import Derived.KernelRfl
namespace Go.Proofs.Ybulkcqtk
/- THE CELL 'sum', in the pinned program and in every row, IS THE sha256 OF THE DUMP (.gsa) THAT YbulkcqtkProg.lean LOADS. Nothing in Lean hashes anything: it is a label: what it is worth is what the hold of that sum in a sandbox is worth. -/
noncomputable def Yba.pinned : Pinned := { name := "ybulkcqtk", sum := "caced7d374f46c6cdd7603813c2514006fa699496a5c972187d097a123a9d1f8", checked := Yba.checked }
namespace Rows
def none {H : Type} : Left H := { results := [], args := [] }

/-- 'sequence.LawS4625BForgetLast': WHATEVER THE INPUT: true; the input reads as it did. -/
def lawS4625BForgetLastSpec : ChangeSpec := { name := "lawS4625BForgetLast", fn := fun _ => fun
  | [d] => { results := [.lit (.bool true)], args := [d] }
  | _ => none }
def lawS4625BForgetLastRow : OpenClaim := { program := "ybulkcqtk", sum := "caced7d374f46c6cdd7603813c2514006fa699496a5c972187d097a123a9d1f8", func := "example.com/semilattice/semilattice/sequence.LawS4625BForgetLast", spec := "lawS4625BForgetLast", apart := false }
def LawS4625BForgetLastSaid : Prop := lawS4625BForgetLastRow.holds Yba.pinned (OpenSpec.ofChange lawS4625BForgetLastSpec)

/-- ITS FALSE NEIGHBOUR: 'it returns false'. Refute it at one input. -/
def lawS4625BForgetLastWrong : ChangeSpec := { name := "lawS4625BForgetLast", fn := fun _ => fun
  | [d] => { results := [.lit (.bool false)], args := [d] }
  | _ => none }
def LawS4625BForgetLastWrongFalsely : Prop := lawS4625BForgetLastRow.holds Yba.pinned (OpenSpec.ofChange lawS4625BForgetLastWrong)

/-- 'sequence.LawS4625BUndoEnrol': WHATEVER THE INPUT: true; the input reads as it did. -/
def lawS4625BUndoEnrolSpec : ChangeSpec := { name := "lawS4625BUndoEnrol", fn := fun _ => fun
  | [d1, d2] => { results := [.lit (.bool true)], args := [d1, d2] }
  | _ => none }
def lawS4625BUndoEnrolRow : OpenClaim := { program := "ybulkcqtk", sum := "caced7d374f46c6cdd7603813c2514006fa699496a5c972187d097a123a9d1f8", func := "example.com/semilattice/semilattice/sequence.LawS4625BUndoEnrol", spec := "lawS4625BUndoEnrol", apart := false }
def LawS4625BUndoEnrolSaid : Prop := lawS4625BUndoEnrolRow.holds Yba.pinned (OpenSpec.ofChange lawS4625BUndoEnrolSpec)

/-- ITS FALSE NEIGHBOUR: 'it returns false'. Refute it at one input. -/
def lawS4625BUndoEnrolWrong : ChangeSpec := { name := "lawS4625BUndoEnrol", fn := fun _ => fun
  | [d1, d2] => { results := [.lit (.bool false)], args := [d1, d2] }
  | _ => none }
def LawS4625BUndoEnrolWrongFalsely : Prop := lawS4625BUndoEnrolRow.holds Yba.pinned (OpenSpec.ofChange lawS4625BUndoEnrolWrong)

/-- 'jsonvalue.LawS4625CSpan': WHATEVER THE INPUT: true; the input reads as it did. -/
def lawS4625CSpanSpec : ChangeSpec := { name := "lawS4625CSpan", fn := fun _ => fun
  | [d1, d2] => { results := [.lit (.bool true)], args := [d1, d2] }
  | _ => none }
def lawS4625CSpanRow : OpenClaim := { program := "ybulkcqtk", sum := "caced7d374f46c6cdd7603813c2514006fa699496a5c972187d097a123a9d1f8", func := "example.com/semilattice/semilattice/jsonvalue.LawS4625CSpan", spec := "lawS4625CSpan", apart := false }
def LawS4625CSpanSaid : Prop := lawS4625CSpanRow.holds Yba.pinned (OpenSpec.ofChange lawS4625CSpanSpec)

/-- ITS FALSE NEIGHBOUR: 'it returns false'. Refute it at one input. -/
def lawS4625CSpanWrong : ChangeSpec := { name := "lawS4625CSpan", fn := fun _ => fun
  | [d1, d2] => { results := [.lit (.bool false)], args := [d1, d2] }
  | _ => none }
def LawS4625CSpanWrongFalsely : Prop := lawS4625CSpanRow.holds Yba.pinned (OpenSpec.ofChange lawS4625CSpanWrong)

/-- 'jsonvalue.LawS4625CBuilt': WHATEVER THE INPUT: true; the input reads as it did. -/
def lawS4625CBuiltSpec : ChangeSpec := { name := "lawS4625CBuilt", fn := fun _ => fun
  | [d1, d2, d3] => { results := [.lit (.bool true)], args := [d1, d2, d3] }
  | _ => none }
def lawS4625CBuiltRow : OpenClaim := { program := "ybulkcqtk", sum := "caced7d374f46c6cdd7603813c2514006fa699496a5c972187d097a123a9d1f8", func := "example.com/semilattice/semilattice/jsonvalue.LawS4625CBuilt", spec := "lawS4625CBuilt", apart := false }
def LawS4625CBuiltSaid : Prop := lawS4625CBuiltRow.holds Yba.pinned (OpenSpec.ofChange lawS4625CBuiltSpec)

/-- ITS FALSE NEIGHBOUR: 'it returns false'. Refute it at one input. -/
def lawS4625CBuiltWrong : ChangeSpec := { name := "lawS4625CBuilt", fn := fun _ => fun
  | [d1, d2, d3] => { results := [.lit (.bool false)], args := [d1, d2, d3] }
  | _ => none }
def LawS4625CBuiltWrongFalsely : Prop := lawS4625CBuiltRow.holds Yba.pinned (OpenSpec.ofChange lawS4625CBuiltWrong)

end Rows
end Go.Proofs.Ybulkcqtk
