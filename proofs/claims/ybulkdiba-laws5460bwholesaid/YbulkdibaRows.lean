/-
  No cell of these rows narrows 'for every input' (looked for: loops, veiled, ifaces, maps, wideKeys, modest, calm, conditions, laid).
  DERIVED. THE GIVEN ROWS OF THIS SEAT. 1 by the template 'for every input the law returns true; each argument reads behind the call as it read before'; 0 by the template 'total and deterministic' (their statements: YbulkdibaTotals.lean).
  GIVEN WITH THE SEED: the statements are not yours to turn. If you find one false, say at which input.
  Laid BY PROGRAM, IN A SANDBOX (cutbox-rows.mjs): the forced cells as the released guide's own fill.sh prints them over the translation 1961110a815d6171… (all of the seat's roots in one cut). By AI agents, Wed Nov 11 2026. No macro, syntax, notation, axiom, sorry.
-/
import Derived.Test.YbulkdibaChecked
import GoSem.Claim
import GoSem.ClaimJoined
import GoSem.ClaimMapViews
import Derived.JoinedTies
import Derived.KernelRfl
namespace Go.Proofs.Ybulkdiba
/- THE CELL 'sum', in the pinned program and in every row, IS THE sha256 OF THE DUMP (.gsa) THAT YbulkdibaProg.lean LOADS. Nothing in Lean hashes anything: it is a label: what it is worth is what the hold of that sum in a sandbox is worth. -/
noncomputable def Yba.pinned : Pinned := { name := "ybulkdiba", sum := "1961110a815d61713c10ab13351cb3b294ce7722ed5e760a99882520ebc2fb95", checked := Yba.checked }
namespace Rows
def none {H : Type} : Left H := { results := [], args := [] }

/-- 'ring.LawS5460BWhole': WHATEVER THE INPUT: true; the input reads as it did. -/
def lawS5460BWholeSpec : ChangeSpec := { name := "lawS5460BWhole", fn := fun _ => fun
  | [d1, d2, d3, d4, d5] => { results := [.lit (.bool true)], args := [d1, d2, d3, d4, d5] }
  | _ => none }
def lawS5460BWholeRow : OpenClaim := { program := "ybulkdiba", sum := "1961110a815d61713c10ab13351cb3b294ce7722ed5e760a99882520ebc2fb95", func := "example.com/ringweave/ringweave/ring.LawS5460BWhole", spec := "lawS5460BWhole", plainKeys := false, apart := false }
def LawS5460BWholeSaid : Prop := lawS5460BWholeRow.holds Yba.pinned (OpenSpec.ofChange lawS5460BWholeSpec)

/-- ITS FALSE NEIGHBOUR: 'it returns false'. Refute it at one input. -/
def lawS5460BWholeWrong : ChangeSpec := { name := "lawS5460BWhole", fn := fun _ => fun
  | [d1, d2, d3, d4, d5] => { results := [.lit (.bool false)], args := [d1, d2, d3, d4, d5] }
  | _ => none }
def LawS5460BWholeWrongFalsely : Prop := lawS5460BWholeRow.holds Yba.pinned (OpenSpec.ofChange lawS5460BWholeWrong)

end Rows
end Go.Proofs.Ybulkdiba
