/-
  No cell of these rows narrows 'for every input' (looked for: loops, veiled, ifaces, maps, wideKeys, modest, calm, conditions, laid).
  DERIVED. THE GIVEN ROWS OF THIS SEAT. 3 by the template 'for every input the law returns true; each argument reads behind the call as it read before'; 0 by the template 'total and deterministic' (their statements: YbulkcpxwTotals.lean).
  GIVEN WITH THE SEED: the statements are not yours to turn. If you find one false, say at which input.
  Laid BY PROGRAM, IN A SANDBOX (cutbox-rows.mjs): the forced cells as the released guide's own fill.sh prints them over the translation cce471ff45dbf5df… (all of the seat's roots in one cut). By AI agents, Wed Nov 11 2026. No macro, syntax, notation, axiom, sorry.
-/
import Derived.Test.YbulkcpxwChecked
import GoSem.Claim
import GoSem.ClaimJoined
import GoSem.ClaimMapViews
import Derived.JoinedTies
import Derived.KernelRfl
namespace Go.Proofs.Ybulkcpxw
/- THE CELL 'sum', in the pinned program and in every row, IS THE sha256 OF THE DUMP (.gsa) THAT YbulkcpxwProg.lean LOADS. Nothing in Lean hashes anything: it is a label: what it is worth is what the hold of that sum in a sandbox is worth. -/
noncomputable def Yba.pinned : Pinned := { name := "ybulkcpxw", sum := "cce471ff45dbf5df6afe3648d708a748645495e7206576efc615280141c9f290", checked := Yba.checked }
namespace Rows
def none {H : Type} : Left H := { results := [], args := [] }

/-- 'quorumhall.LawS4585AAppend': WHATEVER THE INPUT: true; the input reads as it did. -/
def lawS4585AAppendSpec : ChangeSpec := { name := "lawS4585AAppend", fn := fun _ => fun
  | [d1, d2, d3, d4, d5, d6] => { results := [.lit (.bool true)], args := [d1, d2, d3, d4, d5, d6] }
  | _ => none }
def lawS4585AAppendRow : OpenClaim := { program := "ybulkcpxw", sum := "cce471ff45dbf5df6afe3648d708a748645495e7206576efc615280141c9f290", func := "example.com/quorumhall/quorumhall.LawS4585AAppend", spec := "lawS4585AAppend", named := ["encoding/binary.BigEndian"], apart := false }
def LawS4585AAppendSaid : Prop := lawS4585AAppendRow.holds Yba.pinned (OpenSpec.ofChange lawS4585AAppendSpec)

/-- ITS FALSE NEIGHBOUR: 'it returns false'. Refute it at one input. -/
def lawS4585AAppendWrong : ChangeSpec := { name := "lawS4585AAppend", fn := fun _ => fun
  | [d1, d2, d3, d4, d5, d6] => { results := [.lit (.bool false)], args := [d1, d2, d3, d4, d5, d6] }
  | _ => none }
def LawS4585AAppendWrongFalsely : Prop := lawS4585AAppendRow.holds Yba.pinned (OpenSpec.ofChange lawS4585AAppendWrong)

/-- 'quorumhall.LawS4585ARecord': WHATEVER THE INPUT: true; the input reads as it did. -/
def lawS4585ARecordSpec : ChangeSpec := { name := "lawS4585ARecord", fn := fun _ => fun
  | [d1, d2] => { results := [.lit (.bool true)], args := [d1, d2] }
  | _ => none }
def lawS4585ARecordRow : OpenClaim := { program := "ybulkcpxw", sum := "cce471ff45dbf5df6afe3648d708a748645495e7206576efc615280141c9f290", func := "example.com/quorumhall/quorumhall.LawS4585ARecord", spec := "lawS4585ARecord", named := ["encoding/binary.BigEndian"], apart := false }
def LawS4585ARecordSaid : Prop := lawS4585ARecordRow.holds Yba.pinned (OpenSpec.ofChange lawS4585ARecordSpec)

/-- ITS FALSE NEIGHBOUR: 'it returns false'. Refute it at one input. -/
def lawS4585ARecordWrong : ChangeSpec := { name := "lawS4585ARecord", fn := fun _ => fun
  | [d1, d2] => { results := [.lit (.bool false)], args := [d1, d2] }
  | _ => none }
def LawS4585ARecordWrongFalsely : Prop := lawS4585ARecordRow.holds Yba.pinned (OpenSpec.ofChange lawS4585ARecordWrong)

/-- 'quorumhall.LawS4585CProof': WHATEVER THE INPUT: true; the input reads as it did. -/
def lawS4585CProofSpec : ChangeSpec := { name := "lawS4585CProof", fn := fun _ => fun
  | [d1, d2] => { results := [.lit (.bool true)], args := [d1, d2] }
  | _ => none }
def lawS4585CProofRow : OpenClaim := { program := "ybulkcpxw", sum := "cce471ff45dbf5df6afe3648d708a748645495e7206576efc615280141c9f290", func := "example.com/quorumhall/quorumhall.LawS4585CProof", spec := "lawS4585CProof", unfollowed := true, recurses := true, apart := false }
def LawS4585CProofSaid : Prop := lawS4585CProofRow.holds Yba.pinned (OpenSpec.ofChange lawS4585CProofSpec)

/-- ITS FALSE NEIGHBOUR: 'it returns false'. Refute it at one input. -/
def lawS4585CProofWrong : ChangeSpec := { name := "lawS4585CProof", fn := fun _ => fun
  | [d1, d2] => { results := [.lit (.bool false)], args := [d1, d2] }
  | _ => none }
def LawS4585CProofWrongFalsely : Prop := lawS4585CProofRow.holds Yba.pinned (OpenSpec.ofChange lawS4585CProofWrong)

end Rows
end Go.Proofs.Ybulkcpxw
