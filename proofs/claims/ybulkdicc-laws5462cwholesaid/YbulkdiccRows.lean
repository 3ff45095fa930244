/-
  No cell of these rows narrows 'for every input' (looked for: loops, veiled, ifaces, maps, wideKeys, modest, calm, conditions, laid).
  DERIVED. THE GIVEN ROWS OF THIS SEAT. 3 by the template 'for every input the law returns true; each argument reads behind the call as it read before'; 0 by the template 'total and deterministic' (their statements: YbulkdiccTotals.lean).
  GIVEN WITH THE SEED: the statements are not yours to turn. If you find one false, say at which input.
  Laid BY PROGRAM, IN A SANDBOX (cutbox-rows.mjs): the forced cells as the released guide's own fill.sh prints them over the translation 6c5ef53a256ee35a… (all of the seat's roots in one cut). By AI agents, Wed Nov 11 2026. No macro, syntax, notation, axiom, sorry.
-/
import Derived.Test.YbulkdiccChecked
import GoSem.Claim
import GoSem.ClaimJoined
import GoSem.ClaimMapViews
import Derived.JoinedTies
import Derived.KernelRfl
namespace Go.Proofs.Ybulkdicc
/- THE CELL 'sum', in the pinned program and in every row, IS THE sha256 OF THE DUMP (.gsa) THAT YbulkdiccProg.lean LOADS. Nothing in Lean hashes anything: it is a label: what it is worth is what the hold of that sum in a sandbox is worth. -/
noncomputable def Yba.pinned : Pinned := { name := "ybulkdicc", sum := "6c5ef53a256ee35a8bf627e8b0c38edb5f4476f5adeccab577a2403e9bd6fa22", checked := Yba.checked }
namespace Rows
def none {H : Type} : Left H := { results := [], args := [] }

/-- 'dfa.LawS5462AWhole': WHATEVER THE INPUT: true; the input reads as it did. -/
def lawS5462AWholeSpec : ChangeSpec := { name := "lawS5462AWhole", fn := fun _ => fun
  | [d] => { results := [.lit (.bool true)], args := [d] }
  | _ => none }
def lawS5462AWholeRow : OpenClaim := { program := "ybulkdicc", sum := "6c5ef53a256ee35a8bf627e8b0c38edb5f4476f5adeccab577a2403e9bd6fa22", func := "example.com/stillmask/stillmask/internal/dfa.LawS5462AWhole", spec := "lawS5462AWhole", inPlace := ["internal/bytealg.IndexByteString"], apart := false }
def LawS5462AWholeSaid : Prop := lawS5462AWholeRow.holds Yba.pinned (OpenSpec.ofChange lawS5462AWholeSpec)

/-- ITS FALSE NEIGHBOUR: 'it returns false'. Refute it at one input. -/
def lawS5462AWholeWrong : ChangeSpec := { name := "lawS5462AWhole", fn := fun _ => fun
  | [d] => { results := [.lit (.bool false)], args := [d] }
  | _ => none }
def LawS5462AWholeWrongFalsely : Prop := lawS5462AWholeRow.holds Yba.pinned (OpenSpec.ofChange lawS5462AWholeWrong)

/-- 'jsonscan.LawS5462BWhole': WHATEVER THE INPUT: true; the input reads as it did. -/
def lawS5462BWholeSpec : ChangeSpec := { name := "lawS5462BWhole", fn := fun _ => fun
  | [d1, d2, d3, d4, d5] => { results := [.lit (.bool true)], args := [d1, d2, d3, d4, d5] }
  | _ => none }
def lawS5462BWholeRow : OpenClaim := { program := "ybulkdicc", sum := "6c5ef53a256ee35a8bf627e8b0c38edb5f4476f5adeccab577a2403e9bd6fa22", func := "example.com/stillmask/stillmask/internal/jsonscan.LawS5462BWhole", spec := "lawS5462BWhole", inPlace := ["internal/bytealg.IndexByteString"], apart := false }
def LawS5462BWholeSaid : Prop := lawS5462BWholeRow.holds Yba.pinned (OpenSpec.ofChange lawS5462BWholeSpec)

/-- ITS FALSE NEIGHBOUR: 'it returns false'. Refute it at one input. -/
def lawS5462BWholeWrong : ChangeSpec := { name := "lawS5462BWhole", fn := fun _ => fun
  | [d1, d2, d3, d4, d5] => { results := [.lit (.bool false)], args := [d1, d2, d3, d4, d5] }
  | _ => none }
def LawS5462BWholeWrongFalsely : Prop := lawS5462BWholeRow.holds Yba.pinned (OpenSpec.ofChange lawS5462BWholeWrong)

/-- 'mask.LawS5462CWhole': WHATEVER THE INPUT: true; the input reads as it did. -/
def lawS5462CWholeSpec : ChangeSpec := { name := "lawS5462CWhole", fn := fun _ => fun
  | [d1, d2, d3] => { results := [.lit (.bool true)], args := [d1, d2, d3] }
  | _ => none }
def lawS5462CWholeRow : OpenClaim := { program := "ybulkdicc", sum := "6c5ef53a256ee35a8bf627e8b0c38edb5f4476f5adeccab577a2403e9bd6fa22", func := "example.com/stillmask/stillmask/internal/mask.LawS5462CWhole", spec := "lawS5462CWhole", apart := false }
def LawS5462CWholeSaid : Prop := lawS5462CWholeRow.holds Yba.pinned (OpenSpec.ofChange lawS5462CWholeSpec)

/-- ITS FALSE NEIGHBOUR: 'it returns false'. Refute it at one input. -/
def lawS5462CWholeWrong : ChangeSpec := { name := "lawS5462CWhole", fn := fun _ => fun
  | [d1, d2, d3] => { results := [.lit (.bool false)], args := [d1, d2, d3] }
  | _ => none }
def LawS5462CWholeWrongFalsely : Prop := lawS5462CWholeRow.holds Yba.pinned (OpenSpec.ofChange lawS5462CWholeWrong)

end Rows
end Go.Proofs.Ybulkdicc
