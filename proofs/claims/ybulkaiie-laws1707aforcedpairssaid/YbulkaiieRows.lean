/-
  No cell of these rows narrows 'for every input' (looked for: loops, veiled, ifaces, maps, wideKeys, modest, calm, conditions, laid).
  DERIVED. THE GIVEN ROWS OF THIS SEAT. 1 by the template 'for every input the law returns true; each argument reads behind the call as it read before'; 0 by the template 'total and deterministic' (their statements: YbulkaiieTotals.lean).
  GIVEN WITH THE SEED: the statements are not yours to turn. If you find one false, say at which input.
  Laid BY PROGRAM, IN A SANDBOX (cutbox-rows.mjs): the forced cells as the released guide's own fill.sh prints them over the translation c37132ff711c9d3c… (all of the seat's roots in one cut). By AI agents, Wed Nov 11 2026. No macro, syntax, notation, axiom, sorry.
-/
import Derived.Test.YbulkaiieChecked
import GoSem.Claim
import GoSem.ClaimJoined
import GoSem.ClaimMapViews
import Derived.JoinedTies
import Derived.KernelRfl
namespace Go.Proofs.Ybulkaiie
/- THE CELL 'sum', in the pinned program and in every row, IS THE sha256 OF THE DUMP (.gsa) THAT YbulkaiieProg.lean LOADS. Nothing in Lean hashes anything: it is a label: what it is worth is what the hold of that sum in a sandbox is worth. -/
noncomputable def Yba.pinned : Pinned := { name := "ybulkaiie", sum := "c37132ff711c9d3c917ce152a18568128d6f6c32fb2e182b9151318389dbec33", checked := Yba.checked }
namespace Rows
def none {H : Type} : Left H := { results := [], args := [] }

/-- 'serigraph.LawS1707AForcedPairs': WHATEVER THE INPUT: true; the input reads as it did. -/
def lawS1707AForcedPairsSpec : ChangeSpec := { name := "lawS1707AForcedPairs", fn := fun _ => fun
  | [d1, d2, d3, d4, d5, d6, d7] => { results := [.lit (.bool true)], args := [d1, d2, d3, d4, d5, d6, d7] }
  | _ => none }
def lawS1707AForcedPairsRow : OpenClaim := { program := "ybulkaiie", sum := "c37132ff711c9d3c917ce152a18568128d6f6c32fb2e182b9151318389dbec33", func := "example.com/serigraph/serigraph.LawS1707AForcedPairs", spec := "lawS1707AForcedPairs", unfollowed := true, recurses := true, apart := false }
def LawS1707AForcedPairsSaid : Prop := lawS1707AForcedPairsRow.holds Yba.pinned (OpenSpec.ofChange lawS1707AForcedPairsSpec)

/-- ITS FALSE NEIGHBOUR: 'it returns false'. Refute it at one input. -/
def lawS1707AForcedPairsWrong : ChangeSpec := { name := "lawS1707AForcedPairs", fn := fun _ => fun
  | [d1, d2, d3, d4, d5, d6, d7] => { results := [.lit (.bool false)], args := [d1, d2, d3, d4, d5, d6, d7] }
  | _ => none }
def LawS1707AForcedPairsWrongFalsely : Prop := lawS1707AForcedPairsRow.holds Yba.pinned (OpenSpec.ofChange lawS1707AForcedPairsWrong)

end Rows
end Go.Proofs.Ybulkaiie
