/-
  No cell of these rows narrows 'for every input' (looked for: loops, veiled, ifaces, maps, wideKeys, modest, calm, conditions, laid).
  DERIVED. THE GIVEN ROWS OF THIS SEAT. 2 by the template 'for every input the law returns true; each argument reads behind the call as it read before'; 0 by the template 'total and deterministic' (their statements: YbulkdhzyTotals.lean).
  GIVEN WITH THE SEED: the statements are not yours to turn. If you find one false, say at which input.
  Laid BY PROGRAM, IN A SANDBOX (cutbox-rows.mjs): the forced cells as the released guide's own fill.sh prints them over the translation 9f569b79e55cd95e… (all of the seat's roots in one cut). By AI agents, Wed Nov 11 2026. No macro, syntax, notation, axiom, sorry.
-/
import Derived.Test.YbulkdhzyChecked
import GoSem.Claim
import GoSem.ClaimJoined
import GoSem.ClaimMapViews
import Derived.JoinedTies
import Derived.KernelRfl
namespace Go.Proofs.Ybulkdhzy
/- THE CELL 'sum', in the pinned program and in every row, IS THE sha256 OF THE DUMP (.gsa) THAT YbulkdhzyProg.lean LOADS. Nothing in Lean hashes anything: it is a label: what it is worth is what the hold of that sum in a sandbox is worth. -/
noncomputable def Yba.pinned : Pinned := { name := "ybulkdhzy", sum := "9f569b79e55cd95e15b48753df606804076426ae4975dc1eeb946035218694eb", checked := Yba.checked }
namespace Rows
def none {H : Type} : Left H := { results := [], args := [] }

/-- 'weierstrass.LawS5458AWhole': WHATEVER THE INPUT: true; the input reads as it did. -/
def lawS5458AWholeSpec : ChangeSpec := { name := "lawS5458AWhole", fn := fun _ => fun
  | [d1, d2] => { results := [.lit (.bool true)], args := [d1, d2] }
  | _ => none }
def lawS5458AWholeRow : OpenClaim := { program := "ybulkdhzy", sum := "9f569b79e55cd95e15b48753df606804076426ae4975dc1eeb946035218694eb", func := "example.com/outrigger/outrigger/internal/weierstrass.LawS5458AWhole", spec := "lawS5458AWhole", apart := false }
def LawS5458AWholeSaid : Prop := lawS5458AWholeRow.holds Yba.pinned (OpenSpec.ofChange lawS5458AWholeSpec)

/-- ITS FALSE NEIGHBOUR: 'it returns false'. Refute it at one input. -/
def lawS5458AWholeWrong : ChangeSpec := { name := "lawS5458AWhole", fn := fun _ => fun
  | [d1, d2] => { results := [.lit (.bool false)], args := [d1, d2] }
  | _ => none }
def LawS5458AWholeWrongFalsely : Prop := lawS5458AWholeRow.holds Yba.pinned (OpenSpec.ofChange lawS5458AWholeWrong)

/-- 'outrigger.LawS5458CWhole': WHATEVER THE INPUT: true; the input reads as it did. -/
def lawS5458CWholeSpec : ChangeSpec := { name := "lawS5458CWhole", fn := fun _ => fun
  | [d1, d2, d3] => { results := [.lit (.bool true)], args := [d1, d2, d3] }
  | _ => none }
def lawS5458CWholeRow : OpenClaim := { program := "ybulkdhzy", sum := "9f569b79e55cd95e15b48753df606804076426ae4975dc1eeb946035218694eb", func := "example.com/outrigger/outrigger.LawS5458CWhole", spec := "lawS5458CWhole", named := ["encoding/binary.BigEndian"], apart := false }
def LawS5458CWholeSaid : Prop := lawS5458CWholeRow.holds Yba.pinned (OpenSpec.ofChange lawS5458CWholeSpec)

/-- ITS FALSE NEIGHBOUR: 'it returns false'. Refute it at one input. -/
def lawS5458CWholeWrong : ChangeSpec := { name := "lawS5458CWhole", fn := fun _ => fun
  | [d1, d2, d3] => { results := [.lit (.bool false)], args := [d1, d2, d3] }
  | _ => none }
def LawS5458CWholeWrongFalsely : Prop := lawS5458CWholeRow.holds Yba.pinned (OpenSpec.ofChange lawS5458CWholeWrong)

end Rows
end Go.Proofs.Ybulkdhzy
