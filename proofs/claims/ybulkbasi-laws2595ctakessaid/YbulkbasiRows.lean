/-
  No cell of these rows narrows 'for every input' (looked for: loops, veiled, ifaces, maps, wideKeys, modest, calm, conditions, laid).
  DERIVED. THE GIVEN ROWS OF THIS SEAT. 2 by the template 'for every input the law returns true; each argument reads behind the call as it read before'; 0 by the template 'total and deterministic' (their statements: YbulkbasiTotals.lean).
  GIVEN WITH THE SEED: the statements are not yours to turn. If you find one false, say at which input.
  Laid BY PROGRAM, IN A SANDBOX (cutbox-rows.mjs): the forced cells as the released guide's own fill.sh prints them over the translation 00962da82c289ebe… (all of the seat's roots in one cut). By AI agents, Wed Nov 11 2026. No macro, syntax, notation, axiom, sorry.
-/
import Derived.Test.YbulkbasiChecked
import GoSem.Claim
import GoSem.ClaimJoined
import GoSem.ClaimMapViews
import Derived.JoinedTies
import Derived.KernelRfl
namespace Go.Proofs.Ybulkbasi
/- THE CELL 'sum', in the pinned program and in every row, IS THE sha256 OF THE DUMP (.gsa) THAT YbulkbasiProg.lean LOADS. Nothing in Lean hashes anything: it is a label: what it is worth is what the hold of that sum in a sandbox is worth. -/
noncomputable def Yba.pinned : Pinned := { name := "ybulkbasi", sum := "00962da82c289ebec7fb9b7768cb82ca20da19fff5900e42c63007da4eecf231", checked := Yba.checked }
namespace Rows
def none {H : Type} : Left H := { results := [], args := [] }

/-- 'hearsay.LawS2595CTakes': WHATEVER THE INPUT: true; the input reads as it did. -/
def lawS2595CTakesSpec : ChangeSpec := { name := "lawS2595CTakes", fn := fun _ => fun
  | [d1, d2] => { results := [.lit (.bool true)], args := [d1, d2] }
  | _ => none }
def lawS2595CTakesRow : OpenClaim := { program := "ybulkbasi", sum := "00962da82c289ebec7fb9b7768cb82ca20da19fff5900e42c63007da4eecf231", func := "example.com/hearsay/hearsay.LawS2595CTakes", spec := "lawS2595CTakes", inPlace := ["(*internal/sync.Mutex).Lock", "internal/race.Disable", "sync/atomic.CompareAndSwapInt32", "internal/race.Enable", "internal/race.Acquire", "(*internal/sync.Mutex).lockSlow", "internal/sync.runtime_canSpin", "internal/sync.runtime_doSpin", "internal/sync.throw", "internal/sync.runtime_nanotime", "internal/sync.runtime_SemacquireMutex", "sync/atomic.AddInt32", "(*internal/sync.Mutex).Unlock", "internal/race.ReleaseMerge", "(*internal/sync.Mutex).unlockSlow", "internal/sync.fatal", "internal/sync.runtime_Semrelease", "slices.overlaps[*example.com/hearsay/hearsay.wait]"], unfollowed := true, recurses := true, apart := false }
def LawS2595CTakesSaid : Prop := lawS2595CTakesRow.holds Yba.pinned (OpenSpec.ofChange lawS2595CTakesSpec)

/-- ITS FALSE NEIGHBOUR: 'it returns false'. Refute it at one input. -/
def lawS2595CTakesWrong : ChangeSpec := { name := "lawS2595CTakes", fn := fun _ => fun
  | [d1, d2] => { results := [.lit (.bool false)], args := [d1, d2] }
  | _ => none }
def LawS2595CTakesWrongFalsely : Prop := lawS2595CTakesRow.holds Yba.pinned (OpenSpec.ofChange lawS2595CTakesWrong)

/-- 'hearsay.LawS2595CGrow': WHATEVER THE INPUT: true; the input reads as it did. -/
def lawS2595CGrowSpec : ChangeSpec := { name := "lawS2595CGrow", fn := fun _ => fun
  | [d1, d2, d3] => { results := [.lit (.bool true)], args := [d1, d2, d3] }
  | _ => none }
def lawS2595CGrowRow : OpenClaim := { program := "ybulkbasi", sum := "00962da82c289ebec7fb9b7768cb82ca20da19fff5900e42c63007da4eecf231", func := "example.com/hearsay/hearsay.LawS2595CGrow", spec := "lawS2595CGrow", inPlace := ["(*internal/sync.Mutex).Lock", "internal/race.Disable", "sync/atomic.CompareAndSwapInt32", "internal/race.Enable", "internal/race.Acquire", "(*internal/sync.Mutex).lockSlow", "internal/sync.runtime_canSpin", "internal/sync.runtime_doSpin", "internal/sync.throw", "internal/sync.runtime_nanotime", "internal/sync.runtime_SemacquireMutex", "sync/atomic.AddInt32", "(*internal/sync.Mutex).Unlock", "internal/race.ReleaseMerge", "(*internal/sync.Mutex).unlockSlow", "internal/sync.fatal", "internal/sync.runtime_Semrelease", "slices.overlaps[*example.com/hearsay/hearsay.wait]"], unfollowed := true, recurses := true, apart := false }
def LawS2595CGrowSaid : Prop := lawS2595CGrowRow.holds Yba.pinned (OpenSpec.ofChange lawS2595CGrowSpec)

/-- ITS FALSE NEIGHBOUR: 'it returns false'. Refute it at one input. -/
def lawS2595CGrowWrong : ChangeSpec := { name := "lawS2595CGrow", fn := fun _ => fun
  | [d1, d2, d3] => { results := [.lit (.bool false)], args := [d1, d2, d3] }
  | _ => none }
def LawS2595CGrowWrongFalsely : Prop := lawS2595CGrowRow.holds Yba.pinned (OpenSpec.ofChange lawS2595CGrowWrong)

end Rows
end Go.Proofs.Ybulkbasi
