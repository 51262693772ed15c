/-
  No cell of these rows narrows 'for every input' (looked for: loops, veiled, ifaces, maps, wideKeys, modest, calm, conditions, laid).
  DERIVED. THE GIVEN ROWS OF THIS SEAT. 4 by the template 'for every input the law returns true; each argument reads behind the call as it read before'; 0 by the template 'total and deterministic' (their statements: YbulkclzoTotals.lean).
  GIVEN WITH THE SEED: the statements are not yours to turn. If you find one false, say at which input.
  Laid BY PROGRAM, IN A SANDBOX (cutbox-rows.mjs): the forced cells as the released guide's own fill.sh prints them over the translation bf7aa750eb674585… (all of the seat's roots in one cut). By AI agents, Wed Nov 11 2026. No macro, syntax, notation, axiom, sorry.
-/
import Derived.Test.YbulkclzoChecked
import GoSem.Claim
import GoSem.ClaimJoined
import GoSem.ClaimMapViews
import Derived.JoinedTies
import Derived.KernelRfl
namespace Go.Proofs.Ybulkclzo
/- THE CELL 'sum', in the pinned program and in every row, IS THE sha256 OF THE DUMP (.gsa) THAT YbulkclzoProg.lean LOADS. Nothing in Lean hashes anything: it is a label: what it is worth is what the hold of that sum in a sandbox is worth. -/
noncomputable def Yba.pinned : Pinned := { name := "ybulkclzo", sum := "bf7aa750eb674585c0e4d5599e26c62effea92f7a7a79372a4a7612a22813c6d", checked := Yba.checked }
namespace Rows
def none {H : Type} : Left H := { results := [], args := [] }

/-- 'serialyze.LawS4395AModel': WHATEVER THE INPUT: true; the input reads as it did. -/
def lawS4395AModelSpec : ChangeSpec := { name := "lawS4395AModel", fn := fun _ => fun
  | [d1, d2] => { results := [.lit (.bool true)], args := [d1, d2] }
  | _ => none }
def lawS4395AModelRow : OpenClaim := { program := "ybulkclzo", sum := "bf7aa750eb674585c0e4d5599e26c62effea92f7a7a79372a4a7612a22813c6d", func := "example.com/serialyze/serialyze.LawS4395AModel", spec := "lawS4395AModel", apart := false }
def LawS4395AModelSaid : Prop := lawS4395AModelRow.holds Yba.pinned (OpenSpec.ofChange lawS4395AModelSpec)

/-- ITS FALSE NEIGHBOUR: 'it returns false'. Refute it at one input. -/
def lawS4395AModelWrong : ChangeSpec := { name := "lawS4395AModel", fn := fun _ => fun
  | [d1, d2] => { results := [.lit (.bool false)], args := [d1, d2] }
  | _ => none }
def LawS4395AModelWrongFalsely : Prop := lawS4395AModelRow.holds Yba.pinned (OpenSpec.ofChange lawS4395AModelWrong)

/-- 'serialyze.LawS4395ABuilt': WHATEVER THE INPUT: true; the input reads as it did. -/
def lawS4395ABuiltSpec : ChangeSpec := { name := "lawS4395ABuilt", fn := fun _ => fun
  | [d1, d2] => { results := [.lit (.bool true)], args := [d1, d2] }
  | _ => none }
def lawS4395ABuiltRow : OpenClaim := { program := "ybulkclzo", sum := "bf7aa750eb674585c0e4d5599e26c62effea92f7a7a79372a4a7612a22813c6d", func := "example.com/serialyze/serialyze.LawS4395ABuilt", spec := "lawS4395ABuilt", apart := false }
def LawS4395ABuiltSaid : Prop := lawS4395ABuiltRow.holds Yba.pinned (OpenSpec.ofChange lawS4395ABuiltSpec)

/-- ITS FALSE NEIGHBOUR: 'it returns false'. Refute it at one input. -/
def lawS4395ABuiltWrong : ChangeSpec := { name := "lawS4395ABuilt", fn := fun _ => fun
  | [d1, d2] => { results := [.lit (.bool false)], args := [d1, d2] }
  | _ => none }
def LawS4395ABuiltWrongFalsely : Prop := lawS4395ABuiltRow.holds Yba.pinned (OpenSpec.ofChange lawS4395ABuiltWrong)

/-- 'serialyze.LawS4395BFresh': WHATEVER THE INPUT: true; the input reads as it did. -/
def lawS4395BFreshSpec : ChangeSpec := { name := "lawS4395BFresh", fn := fun _ => fun
  | [d1, d2, d3, d4] => { results := [.lit (.bool true)], args := [d1, d2, d3, d4] }
  | _ => none }
def lawS4395BFreshRow : OpenClaim := { program := "ybulkclzo", sum := "bf7aa750eb674585c0e4d5599e26c62effea92f7a7a79372a4a7612a22813c6d", func := "example.com/serialyze/serialyze.LawS4395BFresh", spec := "lawS4395BFresh", apart := false }
def LawS4395BFreshSaid : Prop := lawS4395BFreshRow.holds Yba.pinned (OpenSpec.ofChange lawS4395BFreshSpec)

/-- ITS FALSE NEIGHBOUR: 'it returns false'. Refute it at one input. -/
def lawS4395BFreshWrong : ChangeSpec := { name := "lawS4395BFresh", fn := fun _ => fun
  | [d1, d2, d3, d4] => { results := [.lit (.bool false)], args := [d1, d2, d3, d4] }
  | _ => none }
def LawS4395BFreshWrongFalsely : Prop := lawS4395BFreshRow.holds Yba.pinned (OpenSpec.ofChange lawS4395BFreshWrong)

/-- 'serialyze.LawS4395BKnown': WHATEVER THE INPUT: true; the input reads as it did. -/
def lawS4395BKnownSpec : ChangeSpec := { name := "lawS4395BKnown", fn := fun _ => fun
  | [d1, d2, d3, d4] => { results := [.lit (.bool true)], args := [d1, d2, d3, d4] }
  | _ => none }
def lawS4395BKnownRow : OpenClaim := { program := "ybulkclzo", sum := "bf7aa750eb674585c0e4d5599e26c62effea92f7a7a79372a4a7612a22813c6d", func := "example.com/serialyze/serialyze.LawS4395BKnown", spec := "lawS4395BKnown", apart := false }
def LawS4395BKnownSaid : Prop := lawS4395BKnownRow.holds Yba.pinned (OpenSpec.ofChange lawS4395BKnownSpec)

/-- ITS FALSE NEIGHBOUR: 'it returns false'. Refute it at one input. -/
def lawS4395BKnownWrong : ChangeSpec := { name := "lawS4395BKnown", fn := fun _ => fun
  | [d1, d2, d3, d4] => { results := [.lit (.bool false)], args := [d1, d2, d3, d4] }
  | _ => none }
def LawS4395BKnownWrongFalsely : Prop := lawS4395BKnownRow.holds Yba.pinned (OpenSpec.ofChange lawS4395BKnownWrong)

end Rows
end Go.Proofs.Ybulkclzo
