/-
  No cell of these rows narrows 'for every input' (looked for: loops, veiled, ifaces, maps, wideKeys, modest, calm, conditions, laid).
  DERIVED. THE GIVEN ROWS OF THIS SEAT. 6 by the template 'for every input the law returns true; each argument reads behind the call as it read before'; 0 by the template 'total and deterministic' (their statements: YbulkcpsmTotals.lean).
  GIVEN WITH THE SEED: the statements are not yours to turn. If you find one false, say at which input.
  Laid BY PROGRAM, IN A SANDBOX (cutbox-rows.mjs): the forced cells as the released guide's own fill.sh prints them over the translation 030b45105e965eca… (all of the seat's roots in one cut). By AI agents, Wed Nov 11 2026. No macro, syntax, notation, axiom, sorry.
-/
import Derived.Test.YbulkcpsmChecked
import GoSem.Claim
import GoSem.ClaimJoined
import GoSem.ClaimMapViews
import Derived.JoinedTies
import Derived.KernelRfl
namespace Go.Proofs.Ybulkcpsm
/- THE CELL 'sum', in the pinned program and in every row, IS THE sha256 OF THE DUMP (.gsa) THAT YbulkcpsmProg.lean LOADS. Nothing in Lean hashes anything: it is a label: what it is worth is what the hold of that sum in a sandbox is worth. -/
noncomputable def Yba.pinned : Pinned := { name := "ybulkcpsm", sum := "030b45105e965eca012853bdb4cc040df2589ad740187f744e02e26686381b37", checked := Yba.checked }
namespace Rows
def none {H : Type} : Left H := { results := [], args := [] }

/-- 'check.LawS4575AModel': WHATEVER THE INPUT: true; the input reads as it did. -/
def lawS4575AModelSpec : ChangeSpec := { name := "lawS4575AModel", fn := fun _ => fun
  | [d1, d2, d3] => { results := [.lit (.bool true)], args := [d1, d2, d3] }
  | _ => none }
def lawS4575AModelRow : OpenClaim := { program := "ybulkcpsm", sum := "030b45105e965eca012853bdb4cc040df2589ad740187f744e02e26686381b37", func := "example.com/cluster-accord/cluster-accord/internal/check.LawS4575AModel", spec := "lawS4575AModel", apart := false }
def LawS4575AModelSaid : Prop := lawS4575AModelRow.holds Yba.pinned (OpenSpec.ofChange lawS4575AModelSpec)

/-- ITS FALSE NEIGHBOUR: 'it returns false'. Refute it at one input. -/
def lawS4575AModelWrong : ChangeSpec := { name := "lawS4575AModel", fn := fun _ => fun
  | [d1, d2, d3] => { results := [.lit (.bool false)], args := [d1, d2, d3] }
  | _ => none }
def LawS4575AModelWrongFalsely : Prop := lawS4575AModelRow.holds Yba.pinned (OpenSpec.ofChange lawS4575AModelWrong)

/-- 'check.LawS4575AEdge': WHATEVER THE INPUT: true; the input reads as it did. -/
def lawS4575AEdgeSpec : ChangeSpec := { name := "lawS4575AEdge", fn := fun _ => fun
  | [d1, d2] => { results := [.lit (.bool true)], args := [d1, d2] }
  | _ => none }
def lawS4575AEdgeRow : OpenClaim := { program := "ybulkcpsm", sum := "030b45105e965eca012853bdb4cc040df2589ad740187f744e02e26686381b37", func := "example.com/cluster-accord/cluster-accord/internal/check.LawS4575AEdge", spec := "lawS4575AEdge", apart := false }
def LawS4575AEdgeSaid : Prop := lawS4575AEdgeRow.holds Yba.pinned (OpenSpec.ofChange lawS4575AEdgeSpec)

/-- ITS FALSE NEIGHBOUR: 'it returns false'. Refute it at one input. -/
def lawS4575AEdgeWrong : ChangeSpec := { name := "lawS4575AEdge", fn := fun _ => fun
  | [d1, d2] => { results := [.lit (.bool false)], args := [d1, d2] }
  | _ => none }
def LawS4575AEdgeWrongFalsely : Prop := lawS4575AEdgeRow.holds Yba.pinned (OpenSpec.ofChange lawS4575AEdgeWrong)

/-- 'scenariojson.LawS4575BOneCall': WHATEVER THE INPUT: true; the input reads as it did. -/
def lawS4575BOneCallSpec : ChangeSpec := { name := "lawS4575BOneCall", fn := fun _ => fun
  | [d1, d2, d3, d4] => { results := [.lit (.bool true)], args := [d1, d2, d3, d4] }
  | _ => none }
def lawS4575BOneCallRow : OpenClaim := { program := "ybulkcpsm", sum := "030b45105e965eca012853bdb4cc040df2589ad740187f744e02e26686381b37", func := "example.com/cluster-accord/cluster-accord/internal/scenariojson.LawS4575BOneCall", spec := "lawS4575BOneCall", apart := false }
def LawS4575BOneCallSaid : Prop := lawS4575BOneCallRow.holds Yba.pinned (OpenSpec.ofChange lawS4575BOneCallSpec)

/-- ITS FALSE NEIGHBOUR: 'it returns false'. Refute it at one input. -/
def lawS4575BOneCallWrong : ChangeSpec := { name := "lawS4575BOneCall", fn := fun _ => fun
  | [d1, d2, d3, d4] => { results := [.lit (.bool false)], args := [d1, d2, d3, d4] }
  | _ => none }
def LawS4575BOneCallWrongFalsely : Prop := lawS4575BOneCallRow.holds Yba.pinned (OpenSpec.ofChange lawS4575BOneCallWrong)

/-- 'scenariojson.LawS4575BSequence': WHATEVER THE INPUT: true; the input reads as it did. -/
def lawS4575BSequenceSpec : ChangeSpec := { name := "lawS4575BSequence", fn := fun _ => fun
  | [d1, d2, d3] => { results := [.lit (.bool true)], args := [d1, d2, d3] }
  | _ => none }
def lawS4575BSequenceRow : OpenClaim := { program := "ybulkcpsm", sum := "030b45105e965eca012853bdb4cc040df2589ad740187f744e02e26686381b37", func := "example.com/cluster-accord/cluster-accord/internal/scenariojson.LawS4575BSequence", spec := "lawS4575BSequence", apart := false }
def LawS4575BSequenceSaid : Prop := lawS4575BSequenceRow.holds Yba.pinned (OpenSpec.ofChange lawS4575BSequenceSpec)

/-- ITS FALSE NEIGHBOUR: 'it returns false'. Refute it at one input. -/
def lawS4575BSequenceWrong : ChangeSpec := { name := "lawS4575BSequence", fn := fun _ => fun
  | [d1, d2, d3] => { results := [.lit (.bool false)], args := [d1, d2, d3] }
  | _ => none }
def LawS4575BSequenceWrongFalsely : Prop := lawS4575BSequenceRow.holds Yba.pinned (OpenSpec.ofChange lawS4575BSequenceWrong)

/-- 'jsonstream.LawS4575CSetsBit': WHATEVER THE INPUT: true; the input reads as it did. -/
def lawS4575CSetsBitSpec : ChangeSpec := { name := "lawS4575CSetsBit", fn := fun _ => fun
  | [d1, d2, d3, d4, d5, d6, d7, d8] => { results := [.lit (.bool true)], args := [d1, d2, d3, d4, d5, d6, d7, d8] }
  | _ => none }
def lawS4575CSetsBitRow : OpenClaim := { program := "ybulkcpsm", sum := "030b45105e965eca012853bdb4cc040df2589ad740187f744e02e26686381b37", func := "example.com/cluster-accord/cluster-accord/internal/jsonstream.LawS4575CSetsBit", spec := "lawS4575CSetsBit", apart := false }
def LawS4575CSetsBitSaid : Prop := lawS4575CSetsBitRow.holds Yba.pinned (OpenSpec.ofChange lawS4575CSetsBitSpec)

/-- ITS FALSE NEIGHBOUR: 'it returns false'. Refute it at one input. -/
def lawS4575CSetsBitWrong : ChangeSpec := { name := "lawS4575CSetsBit", fn := fun _ => fun
  | [d1, d2, d3, d4, d5, d6, d7, d8] => { results := [.lit (.bool false)], args := [d1, d2, d3, d4, d5, d6, d7, d8] }
  | _ => none }
def LawS4575CSetsBitWrongFalsely : Prop := lawS4575CSetsBitRow.holds Yba.pinned (OpenSpec.ofChange lawS4575CSetsBitWrong)

/-- 'jsonstream.LawS4575CScript': WHATEVER THE INPUT: true; the input reads as it did. -/
def lawS4575CScriptSpec : ChangeSpec := { name := "lawS4575CScript", fn := fun _ => fun
  | [d1, d2, d3] => { results := [.lit (.bool true)], args := [d1, d2, d3] }
  | _ => none }
def lawS4575CScriptRow : OpenClaim := { program := "ybulkcpsm", sum := "030b45105e965eca012853bdb4cc040df2589ad740187f744e02e26686381b37", func := "example.com/cluster-accord/cluster-accord/internal/jsonstream.LawS4575CScript", spec := "lawS4575CScript", apart := false }
def LawS4575CScriptSaid : Prop := lawS4575CScriptRow.holds Yba.pinned (OpenSpec.ofChange lawS4575CScriptSpec)

/-- ITS FALSE NEIGHBOUR: 'it returns false'. Refute it at one input. -/
def lawS4575CScriptWrong : ChangeSpec := { name := "lawS4575CScript", fn := fun _ => fun
  | [d1, d2, d3] => { results := [.lit (.bool false)], args := [d1, d2, d3] }
  | _ => none }
def LawS4575CScriptWrongFalsely : Prop := lawS4575CScriptRow.holds Yba.pinned (OpenSpec.ofChange lawS4575CScriptWrong)

end Rows
end Go.Proofs.Ybulkcpsm
