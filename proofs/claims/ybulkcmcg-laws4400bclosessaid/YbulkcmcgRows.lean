/-
  No cell of these rows narrows 'for every input' (looked for: loops, veiled, ifaces, maps, wideKeys, modest, calm, conditions, laid).
  DERIVED. THE GIVEN ROWS OF THIS SEAT. 3 by the template 'for every input the law returns true; each argument reads behind the call as it read before'; 0 by the template 'total and deterministic' (their statements: YbulkcmcgTotals.lean).
  GIVEN WITH THE SEED: the statements are not yours to turn. If you find one false, say at which input.
  Laid BY PROGRAM, IN A SANDBOX (cutbox-rows.mjs): the forced cells as the released guide's own fill.sh prints them over the translation 761a206d460d67bf… (all of the seat's roots in one cut). By AI agents, Wed Nov 11 2026. No macro, syntax, notation, axiom, sorry.
-/
import Derived.Test.YbulkcmcgChecked
import GoSem.Claim
import GoSem.ClaimJoined
import GoSem.ClaimMapViews
import Derived.JoinedTies
import Derived.KernelRfl
namespace Go.Proofs.Ybulkcmcg
/- THE CELL 'sum', in the pinned program and in every row, IS THE sha256 OF THE DUMP (.gsa) THAT YbulkcmcgProg.lean LOADS. Nothing in Lean hashes anything: it is a label: what it is worth is what the hold of that sum in a sandbox is worth. -/
noncomputable def Yba.pinned : Pinned := { name := "ybulkcmcg", sum := "761a206d460d67bf57438bae4fc98c808fbc36b0ffeeb7c0c770a78a9d01b46d", checked := Yba.checked }
namespace Rows
def none {H : Type} : Left H := { results := [], args := [] }

/-- 'http1.LawS4400BCloses': WHATEVER THE INPUT: true; the input reads as it did. -/
def lawS4400BClosesSpec : ChangeSpec := { name := "lawS4400BCloses", fn := fun _ => fun
  | [d] => { results := [.lit (.bool true)], args := [d] }
  | _ => none }
def lawS4400BClosesRow : OpenClaim := { program := "ybulkcmcg", sum := "761a206d460d67bf57438bae4fc98c808fbc36b0ffeeb7c0c770a78a9d01b46d", func := "example.com/holdfast/holdfast/internal/http1.LawS4400BCloses", spec := "lawS4400BCloses", inPlace := ["(*internal/sync.Mutex).Lock", "internal/race.Disable", "sync/atomic.CompareAndSwapInt32", "internal/race.Enable", "internal/race.Acquire", "(*internal/sync.Mutex).lockSlow", "internal/sync.runtime_canSpin", "internal/sync.runtime_doSpin", "internal/sync.throw", "internal/sync.runtime_nanotime", "internal/sync.runtime_SemacquireMutex", "sync/atomic.AddInt32", "(*internal/sync.Mutex).Unlock", "internal/race.ReleaseMerge", "(*internal/sync.Mutex).unlockSlow", "internal/sync.fatal", "internal/sync.runtime_Semrelease"], unfollowed := true, recurses := true, plainKeys := false, apart := false }
def LawS4400BClosesSaid : Prop := lawS4400BClosesRow.holds Yba.pinned (OpenSpec.ofChange lawS4400BClosesSpec)

/-- ITS FALSE NEIGHBOUR: 'it returns false'. Refute it at one input. -/
def lawS4400BClosesWrong : ChangeSpec := { name := "lawS4400BCloses", fn := fun _ => fun
  | [d] => { results := [.lit (.bool false)], args := [d] }
  | _ => none }
def LawS4400BClosesWrongFalsely : Prop := lawS4400BClosesRow.holds Yba.pinned (OpenSpec.ofChange lawS4400BClosesWrong)

/-- 'http1.LawS4400BTwice': WHATEVER THE INPUT: true; the input reads as it did. -/
def lawS4400BTwiceSpec : ChangeSpec := { name := "lawS4400BTwice", fn := fun _ => fun
  | [d] => { results := [.lit (.bool true)], args := [d] }
  | _ => none }
def lawS4400BTwiceRow : OpenClaim := { program := "ybulkcmcg", sum := "761a206d460d67bf57438bae4fc98c808fbc36b0ffeeb7c0c770a78a9d01b46d", func := "example.com/holdfast/holdfast/internal/http1.LawS4400BTwice", spec := "lawS4400BTwice", inPlace := ["(*internal/sync.Mutex).Lock", "internal/race.Disable", "sync/atomic.CompareAndSwapInt32", "internal/race.Enable", "internal/race.Acquire", "(*internal/sync.Mutex).lockSlow", "internal/sync.runtime_canSpin", "internal/sync.runtime_doSpin", "internal/sync.throw", "internal/sync.runtime_nanotime", "internal/sync.runtime_SemacquireMutex", "sync/atomic.AddInt32", "(*internal/sync.Mutex).Unlock", "internal/race.ReleaseMerge", "(*internal/sync.Mutex).unlockSlow", "internal/sync.fatal", "internal/sync.runtime_Semrelease"], unfollowed := true, recurses := true, plainKeys := false, apart := false }
def LawS4400BTwiceSaid : Prop := lawS4400BTwiceRow.holds Yba.pinned (OpenSpec.ofChange lawS4400BTwiceSpec)

/-- ITS FALSE NEIGHBOUR: 'it returns false'. Refute it at one input. -/
def lawS4400BTwiceWrong : ChangeSpec := { name := "lawS4400BTwice", fn := fun _ => fun
  | [d] => { results := [.lit (.bool false)], args := [d] }
  | _ => none }
def LawS4400BTwiceWrongFalsely : Prop := lawS4400BTwiceRow.holds Yba.pinned (OpenSpec.ofChange lawS4400BTwiceWrong)

/-- 'lock.LawS4400CStandIn': WHATEVER THE INPUT: true; the input reads as it did. -/
def lawS4400CStandInSpec : ChangeSpec := { name := "lawS4400CStandIn", fn := fun _ => fun
  | [d1, d2, d3, d4, d5, d6] => { results := [.lit (.bool true)], args := [d1, d2, d3, d4, d5, d6] }
  | _ => none }
def lawS4400CStandInRow : OpenClaim := { program := "ybulkcmcg", sum := "761a206d460d67bf57438bae4fc98c808fbc36b0ffeeb7c0c770a78a9d01b46d", func := "example.com/holdfast/holdfast/internal/lock.LawS4400CStandIn", spec := "lawS4400CStandIn", inPlace := ["crypto/internal/constanttime.boolToUint8"], unfollowed := true, recurses := true, named := ["encoding/binary.BigEndian"], plainKeys := false, apart := false }
def LawS4400CStandInSaid : Prop := lawS4400CStandInRow.holds Yba.pinned (OpenSpec.ofChange lawS4400CStandInSpec)

/-- ITS FALSE NEIGHBOUR: 'it returns false'. Refute it at one input. -/
def lawS4400CStandInWrong : ChangeSpec := { name := "lawS4400CStandIn", fn := fun _ => fun
  | [d1, d2, d3, d4, d5, d6] => { results := [.lit (.bool false)], args := [d1, d2, d3, d4, d5, d6] }
  | _ => none }
def LawS4400CStandInWrongFalsely : Prop := lawS4400CStandInRow.holds Yba.pinned (OpenSpec.ofChange lawS4400CStandInWrong)

end Rows
end Go.Proofs.Ybulkcmcg
