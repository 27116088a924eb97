/-
  No cell of these rows narrows 'for every input' (looked for: loops, veiled, ifaces, maps, wideKeys, modest, calm, conditions, laid).
  DERIVED. THE GIVEN ROWS OF THIS SEAT. 5 by the template 'for every input the law returns true; each argument reads behind the call as it read before'; 0 by the template 'total and deterministic' (their statements: YbulkaigoTotals.lean).
  GIVEN WITH THE SEED: the statements are not yours to turn. If you find one false, say at which input.
  Laid BY PROGRAM, IN A SANDBOX (cutbox-rows.mjs): the forced cells as the released guide's own fill.sh prints them over the translation f85b62805ff1bf48… (all of the seat's roots in one cut). By AI agents, Wed Nov 11 2026. No macro, syntax, notation, axiom, sorry.
-/
import Derived.Test.YbulkaigoChecked
import GoSem.Claim
import GoSem.ClaimJoined
import GoSem.ClaimMapViews
import Derived.JoinedTies
import Derived.KernelRfl
namespace Go.Proofs.Ybulkaigo
/- THE CELL 'sum', in the pinned program and in every row, IS THE sha256 OF THE DUMP (.gsa) THAT YbulkaigoProg.lean LOADS. Nothing in Lean hashes anything: it is a label: what it is worth is what the hold of that sum in a sandbox is worth. -/
noncomputable def Yba.pinned : Pinned := { name := "ybulkaigo", sum := "f85b62805ff1bf485ea1dd90212b75723962fdcf37e5ef2d4bc644768f08e5d5", checked := Yba.checked }
namespace Rows
def none {H : Type} : Left H := { results := [], args := [] }

/-- 'pinhole.LawS1704AKeeps': WHATEVER THE INPUT: true; the input reads as it did. -/
def lawS1704AKeepsSpec : ChangeSpec := { name := "lawS1704AKeeps", fn := fun _ => fun
  | [d1, d2, d3, d4, d5, d6] => { results := [.lit (.bool true)], args := [d1, d2, d3, d4, d5, d6] }
  | _ => none }
def lawS1704AKeepsRow : OpenClaim := { program := "ybulkaigo", sum := "f85b62805ff1bf485ea1dd90212b75723962fdcf37e5ef2d4bc644768f08e5d5", func := "example.com/pinhole/pinhole.LawS1704AKeeps", spec := "lawS1704AKeeps", apart := false }
def LawS1704AKeepsSaid : Prop := lawS1704AKeepsRow.holds Yba.pinned (OpenSpec.ofChange lawS1704AKeepsSpec)

/-- ITS FALSE NEIGHBOUR: 'it returns false'. Refute it at one input. -/
def lawS1704AKeepsWrong : ChangeSpec := { name := "lawS1704AKeeps", fn := fun _ => fun
  | [d1, d2, d3, d4, d5, d6] => { results := [.lit (.bool false)], args := [d1, d2, d3, d4, d5, d6] }
  | _ => none }
def LawS1704AKeepsWrongFalsely : Prop := lawS1704AKeepsRow.holds Yba.pinned (OpenSpec.ofChange lawS1704AKeepsWrong)

/-- 'pinhole.LawS1704BFifo': WHATEVER THE INPUT: true; the input reads as it did. -/
def lawS1704BFifoSpec : ChangeSpec := { name := "lawS1704BFifo", fn := fun _ => fun
  | [d1, d2, d3] => { results := [.lit (.bool true)], args := [d1, d2, d3] }
  | _ => none }
def lawS1704BFifoRow : OpenClaim := { program := "ybulkaigo", sum := "f85b62805ff1bf485ea1dd90212b75723962fdcf37e5ef2d4bc644768f08e5d5", func := "example.com/pinhole/pinhole.LawS1704BFifo", spec := "lawS1704BFifo", apart := false }
def LawS1704BFifoSaid : Prop := lawS1704BFifoRow.holds Yba.pinned (OpenSpec.ofChange lawS1704BFifoSpec)

/-- ITS FALSE NEIGHBOUR: 'it returns false'. Refute it at one input. -/
def lawS1704BFifoWrong : ChangeSpec := { name := "lawS1704BFifo", fn := fun _ => fun
  | [d1, d2, d3] => { results := [.lit (.bool false)], args := [d1, d2, d3] }
  | _ => none }
def LawS1704BFifoWrongFalsely : Prop := lawS1704BFifoRow.holds Yba.pinned (OpenSpec.ofChange lawS1704BFifoWrong)

/-- 'wire.LawS1704CWrite': WHATEVER THE INPUT: true; the input reads as it did. -/
def lawS1704CWriteSpec : ChangeSpec := { name := "lawS1704CWrite", fn := fun _ => fun
  | [d1, d2, d3, d4] => { results := [.lit (.bool true)], args := [d1, d2, d3, d4] }
  | _ => none }
def lawS1704CWriteRow : OpenClaim := { program := "ybulkaigo", sum := "f85b62805ff1bf485ea1dd90212b75723962fdcf37e5ef2d4bc644768f08e5d5", func := "example.com/pinhole/pinhole/internal/wire.LawS1704CWrite", spec := "lawS1704CWrite", apart := false }
def LawS1704CWriteSaid : Prop := lawS1704CWriteRow.holds Yba.pinned (OpenSpec.ofChange lawS1704CWriteSpec)

/-- ITS FALSE NEIGHBOUR: 'it returns false'. Refute it at one input. -/
def lawS1704CWriteWrong : ChangeSpec := { name := "lawS1704CWrite", fn := fun _ => fun
  | [d1, d2, d3, d4] => { results := [.lit (.bool false)], args := [d1, d2, d3, d4] }
  | _ => none }
def LawS1704CWriteWrongFalsely : Prop := lawS1704CWriteRow.holds Yba.pinned (OpenSpec.ofChange lawS1704CWriteWrong)

/-- 'wire.LawS1704CRead': WHATEVER THE INPUT: true; the input reads as it did. -/
def lawS1704CReadSpec : ChangeSpec := { name := "lawS1704CRead", fn := fun _ => fun
  | [d1, d2, d3, d4, d5] => { results := [.lit (.bool true)], args := [d1, d2, d3, d4, d5] }
  | _ => none }
def lawS1704CReadRow : OpenClaim := { program := "ybulkaigo", sum := "f85b62805ff1bf485ea1dd90212b75723962fdcf37e5ef2d4bc644768f08e5d5", func := "example.com/pinhole/pinhole/internal/wire.LawS1704CRead", spec := "lawS1704CRead", apart := false }
def LawS1704CReadSaid : Prop := lawS1704CReadRow.holds Yba.pinned (OpenSpec.ofChange lawS1704CReadSpec)

/-- ITS FALSE NEIGHBOUR: 'it returns false'. Refute it at one input. -/
def lawS1704CReadWrong : ChangeSpec := { name := "lawS1704CRead", fn := fun _ => fun
  | [d1, d2, d3, d4, d5] => { results := [.lit (.bool false)], args := [d1, d2, d3, d4, d5] }
  | _ => none }
def LawS1704CReadWrongFalsely : Prop := lawS1704CReadRow.holds Yba.pinned (OpenSpec.ofChange lawS1704CReadWrong)

/-- 'wire.LawS1704CRoundTrip': WHATEVER THE INPUT: true; the input reads as it did. -/
def lawS1704CRoundTripSpec : ChangeSpec := { name := "lawS1704CRoundTrip", fn := fun _ => fun
  | [d1, d2, d3] => { results := [.lit (.bool true)], args := [d1, d2, d3] }
  | _ => none }
def lawS1704CRoundTripRow : OpenClaim := { program := "ybulkaigo", sum := "f85b62805ff1bf485ea1dd90212b75723962fdcf37e5ef2d4bc644768f08e5d5", func := "example.com/pinhole/pinhole/internal/wire.LawS1704CRoundTrip", spec := "lawS1704CRoundTrip", apart := false }
def LawS1704CRoundTripSaid : Prop := lawS1704CRoundTripRow.holds Yba.pinned (OpenSpec.ofChange lawS1704CRoundTripSpec)

/-- ITS FALSE NEIGHBOUR: 'it returns false'. Refute it at one input. -/
def lawS1704CRoundTripWrong : ChangeSpec := { name := "lawS1704CRoundTrip", fn := fun _ => fun
  | [d1, d2, d3] => { results := [.lit (.bool false)], args := [d1, d2, d3] }
  | _ => none }
def LawS1704CRoundTripWrongFalsely : Prop := lawS1704CRoundTripRow.holds Yba.pinned (OpenSpec.ofChange lawS1704CRoundTripWrong)

end Rows
end Go.Proofs.Ybulkaigo
