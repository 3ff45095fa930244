/-
  No cell of these rows narrows 'for every input' (looked for: loops, veiled, ifaces, maps, wideKeys, modest, calm, conditions, laid).
  DERIVED. THE GIVEN ROWS OF THIS SEAT. 2 by the template 'for every input the law returns true; each argument reads behind the call as it read before'; 0 by the template 'total and deterministic' (their statements: YbulkdhzkTotals.lean).
  GIVEN WITH THE SEED: the statements are not yours to turn. If you find one false, say at which input.
  Laid BY PROGRAM, IN A SANDBOX (cutbox-rows.mjs): the forced cells as the released guide's own fill.sh prints them over the translation d443aaaf05bba269… (all of the seat's roots in one cut). By AI agents, Wed Nov 11 2026. No macro, syntax, notation, axiom, sorry.
-/
import Derived.Test.YbulkdhzkChecked
import GoSem.Claim
import GoSem.ClaimJoined
import GoSem.ClaimMapViews
import Derived.JoinedTies
import Derived.KernelRfl
namespace Go.Proofs.Ybulkdhzk
/- THE CELL 'sum', in the pinned program and in every row, IS THE sha256 OF THE DUMP (.gsa) THAT YbulkdhzkProg.lean LOADS. Nothing in Lean hashes anything: it is a label: what it is worth is what the hold of that sum in a sandbox is worth. -/
noncomputable def Yba.pinned : Pinned := { name := "ybulkdhzk", sum := "d443aaaf05bba269c11403d9827fc7c3eaff2ecf552db788479928ca2a0b4bf2", checked := Yba.checked }
namespace Rows
def none {H : Type} : Left H := { results := [], args := [] }

/-- 'warrant.LawS5457AWhole': WHATEVER THE INPUT: true; the input reads as it did. -/
def lawS5457AWholeSpec : ChangeSpec := { name := "lawS5457AWhole", fn := fun _ => fun
  | [d1, d2] => { results := [.lit (.bool true)], args := [d1, d2] }
  | _ => none }
def lawS5457AWholeRow : OpenClaim := { program := "ybulkdhzk", sum := "d443aaaf05bba269c11403d9827fc7c3eaff2ecf552db788479928ca2a0b4bf2", func := "example.com/warrant/warrant.LawS5457AWhole", spec := "lawS5457AWhole", named := ["encoding/binary.BigEndian"], apart := false }
def LawS5457AWholeSaid : Prop := lawS5457AWholeRow.holds Yba.pinned (OpenSpec.ofChange lawS5457AWholeSpec)

/-- ITS FALSE NEIGHBOUR: 'it returns false'. Refute it at one input. -/
def lawS5457AWholeWrong : ChangeSpec := { name := "lawS5457AWhole", fn := fun _ => fun
  | [d1, d2] => { results := [.lit (.bool false)], args := [d1, d2] }
  | _ => none }
def LawS5457AWholeWrongFalsely : Prop := lawS5457AWholeRow.holds Yba.pinned (OpenSpec.ofChange lawS5457AWholeWrong)

/-- 'warrant.LawS5457BWhole': WHATEVER THE INPUT: true; the input reads as it did. -/
def lawS5457BWholeSpec : ChangeSpec := { name := "lawS5457BWhole", fn := fun _ => fun
  | [d1, d2, d3, d4, d5] => { results := [.lit (.bool true)], args := [d1, d2, d3, d4, d5] }
  | _ => none }
def lawS5457BWholeRow : OpenClaim := { program := "ybulkdhzk", sum := "d443aaaf05bba269c11403d9827fc7c3eaff2ecf552db788479928ca2a0b4bf2", func := "example.com/warrant/warrant.LawS5457BWhole", spec := "lawS5457BWhole", apart := false }
def LawS5457BWholeSaid : Prop := lawS5457BWholeRow.holds Yba.pinned (OpenSpec.ofChange lawS5457BWholeSpec)

/-- ITS FALSE NEIGHBOUR: 'it returns false'. Refute it at one input. -/
def lawS5457BWholeWrong : ChangeSpec := { name := "lawS5457BWhole", fn := fun _ => fun
  | [d1, d2, d3, d4, d5] => { results := [.lit (.bool false)], args := [d1, d2, d3, d4, d5] }
  | _ => none }
def LawS5457BWholeWrongFalsely : Prop := lawS5457BWholeRow.holds Yba.pinned (OpenSpec.ofChange lawS5457BWholeWrong)

end Rows
end Go.Proofs.Ybulkdhzk
