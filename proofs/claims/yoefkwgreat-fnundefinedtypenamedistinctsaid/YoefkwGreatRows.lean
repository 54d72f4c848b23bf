/-
  No cell of these rows narrows 'for every input' (looked for: loops, veiled, ifaces, maps, wideKeys, modest, calm, conditions, laid).
  DERIVED. THE GIVEN ROWS OF THIS SEAT. 1 by the template 'for every input the law returns true; each argument reads behind the call as it read before'; 0 by the template 'total and deterministic' (their statements: YoefkwGreatTotals.lean).
  GIVEN WITH THE SEED: the statements are not yours to turn. If you find one false, say at which input.
  Laid BY PROGRAM, IN A SANDBOX (cutbox-rows.mjs): the forced cells as the released guide's own fill.sh prints them over the translation 3ba831283a13f0c9… (all of the seat's roots in one cut). By AI agents, Wed Nov 11 2026. No macro, syntax, notation, axiom, sorry.
-/
import Derived.Test.YoefkwGreatChecked
import GoSem.Claim
import GoSem.ClaimJoined
import GoSem.ClaimMapViews
import Derived.JoinedTies
import Derived.KernelRfl
namespace Go.Proofs.YoefkwGreat
/- THE CELL 'sum', in the pinned program and in every row, IS THE sha256 OF THE DUMP (.gsa) THAT YoefkwGreatProg.lean LOADS. Nothing in Lean hashes anything: it is a label: what it is worth is what the hold of that sum in a sandbox is worth. -/
noncomputable def Efkg.pinned : Pinned := { name := "yoefkwgreat", sum := "3ba831283a13f0c91d84dd80b1f195008c07b31e68c0cafa86cd2bdb20807073", checked := Efkg.checked }
namespace Rows
def none {H : Type} : Left H := { results := [], args := [] }

/-- 'zzlaws_root_b1.FnUndefinedTypeNameDistinct': WHATEVER THE INPUT: true; the input reads as it did. -/
def fnUndefinedTypeNameDistinctSpec : ChangeSpec := { name := "fnUndefinedTypeNameDistinct", fn := fun _ => fun
  | [d] => { results := [.lit (.bool true)], args := [d] }
  | _ => none }
def fnUndefinedTypeNameDistinctRow : OpenClaim := { program := "yoefkwgreat", sum := "3ba831283a13f0c91d84dd80b1f195008c07b31e68c0cafa86cd2bdb20807073", func := "github.com/d5/tengo/v2/zzlaws_root_b1.FnUndefinedTypeNameDistinct", spec := "fnUndefinedTypeNameDistinct", apart := false }
def FnUndefinedTypeNameDistinctSaid : Prop := fnUndefinedTypeNameDistinctRow.holds Efkg.pinned (OpenSpec.ofChange fnUndefinedTypeNameDistinctSpec)

/-- ITS FALSE NEIGHBOUR: 'it returns false'. Refute it at one input. -/
def fnUndefinedTypeNameDistinctWrong : ChangeSpec := { name := "fnUndefinedTypeNameDistinct", fn := fun _ => fun
  | [d] => { results := [.lit (.bool false)], args := [d] }
  | _ => none }
def FnUndefinedTypeNameDistinctWrongFalsely : Prop := fnUndefinedTypeNameDistinctRow.holds Efkg.pinned (OpenSpec.ofChange fnUndefinedTypeNameDistinctWrong)

end Rows
end Go.Proofs.YoefkwGreat
