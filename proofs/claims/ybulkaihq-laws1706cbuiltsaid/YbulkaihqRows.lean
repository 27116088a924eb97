/-
  No cell of these rows narrows 'for every input' (looked for: loops, veiled, ifaces, maps, wideKeys, modest, calm, conditions, laid).
  DERIVED. THE GIVEN ROWS OF THIS SEAT. 2 by the template 'for every input the law returns true; each argument reads behind the call as it read before'; 0 by the template 'total and deterministic' (their statements: YbulkaihqTotals.lean).
  GIVEN WITH THE SEED: the statements are not yours to turn. If you find one false, say at which input.
  Laid BY PROGRAM, IN A SANDBOX (cutbox-rows.mjs): the forced cells as the released guide's own fill.sh prints them over the translation 323356dfcb337349… (all of the seat's roots in one cut). By AI agents, Wed Nov 11 2026. No macro, syntax, notation, axiom, sorry.
-/
import Derived.Test.YbulkaihqChecked
import GoSem.Claim
import GoSem.ClaimJoined
import GoSem.ClaimMapViews
import Derived.JoinedTies
import Derived.KernelRfl
namespace Go.Proofs.Ybulkaihq
/- THE CELL 'sum', in the pinned program and in every row, IS THE sha256 OF THE DUMP (.gsa) THAT YbulkaihqProg.lean LOADS. Nothing in Lean hashes anything: it is a label: what it is worth is what the hold of that sum in a sandbox is worth. -/
noncomputable def Yba.pinned : Pinned := { name := "ybulkaihq", sum := "323356dfcb337349782e9a1271c4d5f35a6ba73be1d8dd533798333ec7d32a21", checked := Yba.checked }
namespace Rows
def none {H : Type} : Left H := { results := [], args := [] }

/-- 'http1.LawS1706CRaw': WHATEVER THE INPUT: true; the input reads as it did. -/
def lawS1706CRawSpec : ChangeSpec := { name := "lawS1706CRaw", fn := fun _ => fun
  | [d] => { results := [.lit (.bool true)], args := [d] }
  | _ => none }
def lawS1706CRawRow : OpenClaim := { program := "ybulkaihq", sum := "323356dfcb337349782e9a1271c4d5f35a6ba73be1d8dd533798333ec7d32a21", func := "tollhatch.example/tollhatch/internal/http1.LawS1706CRaw", spec := "lawS1706CRaw", apart := false }
def LawS1706CRawSaid : Prop := lawS1706CRawRow.holds Yba.pinned (OpenSpec.ofChange lawS1706CRawSpec)

/-- ITS FALSE NEIGHBOUR: 'it returns false'. Refute it at one input. -/
def lawS1706CRawWrong : ChangeSpec := { name := "lawS1706CRaw", fn := fun _ => fun
  | [d] => { results := [.lit (.bool false)], args := [d] }
  | _ => none }
def LawS1706CRawWrongFalsely : Prop := lawS1706CRawRow.holds Yba.pinned (OpenSpec.ofChange lawS1706CRawWrong)

/-- 'http1.LawS1706CBuilt': WHATEVER THE INPUT: true; the input reads as it did. -/
def lawS1706CBuiltSpec : ChangeSpec := { name := "lawS1706CBuilt", fn := fun _ => fun
  | [d] => { results := [.lit (.bool true)], args := [d] }
  | _ => none }
def lawS1706CBuiltRow : OpenClaim := { program := "ybulkaihq", sum := "323356dfcb337349782e9a1271c4d5f35a6ba73be1d8dd533798333ec7d32a21", func := "tollhatch.example/tollhatch/internal/http1.LawS1706CBuilt", spec := "lawS1706CBuilt", apart := false }
def LawS1706CBuiltSaid : Prop := lawS1706CBuiltRow.holds Yba.pinned (OpenSpec.ofChange lawS1706CBuiltSpec)

/-- ITS FALSE NEIGHBOUR: 'it returns false'. Refute it at one input. -/
def lawS1706CBuiltWrong : ChangeSpec := { name := "lawS1706CBuilt", fn := fun _ => fun
  | [d] => { results := [.lit (.bool false)], args := [d] }
  | _ => none }
def LawS1706CBuiltWrongFalsely : Prop := lawS1706CBuiltRow.holds Yba.pinned (OpenSpec.ofChange lawS1706CBuiltWrong)

end Rows
end Go.Proofs.Ybulkaihq
