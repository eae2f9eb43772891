/-
  No cell of these rows narrows 'for every input' (looked for: loops, veiled, ifaces, maps, wideKeys, modest, calm, conditions, laid).
  DERIVED. THE GIVEN ROWS OF THIS SEAT. 5 by the template 'for every input the law returns true; each argument reads behind the call as it read before'; 0 by the template 'total and deterministic' (their statements: YbulkbsboTotals.lean).
  GIVEN WITH THE SEED: the statements are not yours to turn. If you find one false, say at which input.
  Laid BY PROGRAM, IN A SANDBOX (cutbox-rows.mjs): the forced cells as the released guide's own fill.sh prints them over the translation 9abaec533e5ee2b2… (all of the seat's roots in one cut). By AI agents, Wed Nov 11 2026. No macro, syntax, notation, axiom, sorry.
-/
import Derived.Test.YbulkbsboChecked
import GoSem.Claim
import GoSem.ClaimJoined
import GoSem.ClaimMapViews
import Derived.JoinedTies
import Derived.KernelRfl
namespace Go.Proofs.Ybulkbsbo
/- THE CELL 'sum', in the pinned program and in every row, IS THE sha256 OF THE DUMP (.gsa) THAT YbulkbsboProg.lean LOADS. Nothing in Lean hashes anything: it is a label: what it is worth is what the hold of that sum in a sandbox is worth. -/
noncomputable def Yba.pinned : Pinned := { name := "ybulkbsbo", sum := "9abaec533e5ee2b2af5a1ed844d4b89547296904d0bd670b5c0e0a1e53d68303", checked := Yba.checked }
namespace Rows
def none {H : Type} : Left H := { results := [], args := [] }

/-- 'store.LawS3433ALookup': WHATEVER THE INPUT: true; the input reads as it did. -/
def lawS3433ALookupSpec : ChangeSpec := { name := "lawS3433ALookup", fn := fun _ => fun
  | [d1, d2, d3, d4] => { results := [.lit (.bool true)], args := [d1, d2, d3, d4] }
  | _ => none }
def lawS3433ALookupRow : OpenClaim := { program := "ybulkbsbo", sum := "9abaec533e5ee2b2af5a1ed844d4b89547296904d0bd670b5c0e0a1e53d68303", func := "example.com/quorate/quorate/internal/store.LawS3433ALookup", spec := "lawS3433ALookup", inPlace := ["(*internal/sync.Mutex).Lock", "internal/race.Disable", "sync/atomic.CompareAndSwapInt32", "internal/race.Enable", "internal/race.Acquire", "(*internal/sync.Mutex).lockSlow", "internal/sync.runtime_canSpin", "internal/sync.runtime_doSpin", "internal/sync.throw", "internal/sync.runtime_nanotime", "internal/sync.runtime_SemacquireMutex", "sync/atomic.AddInt32", "(*internal/sync.Mutex).Unlock", "internal/race.ReleaseMerge", "(*internal/sync.Mutex).unlockSlow", "internal/sync.fatal", "internal/sync.runtime_Semrelease"], apart := false }
def LawS3433ALookupSaid : Prop := lawS3433ALookupRow.holds Yba.pinned (OpenSpec.ofChange lawS3433ALookupSpec)

/-- ITS FALSE NEIGHBOUR: 'it returns false'. Refute it at one input. -/
def lawS3433ALookupWrong : ChangeSpec := { name := "lawS3433ALookup", fn := fun _ => fun
  | [d1, d2, d3, d4] => { results := [.lit (.bool false)], args := [d1, d2, d3, d4] }
  | _ => none }
def LawS3433ALookupWrongFalsely : Prop := lawS3433ALookupRow.holds Yba.pinned (OpenSpec.ofChange lawS3433ALookupWrong)

/-- 'store.LawS3433ANoteDrop': WHATEVER THE INPUT: true; the input reads as it did. -/
def lawS3433ANoteDropSpec : ChangeSpec := { name := "lawS3433ANoteDrop", fn := fun _ => fun
  | [d1, d2, d3, d4, d5] => { results := [.lit (.bool true)], args := [d1, d2, d3, d4, d5] }
  | _ => none }
def lawS3433ANoteDropRow : OpenClaim := { program := "ybulkbsbo", sum := "9abaec533e5ee2b2af5a1ed844d4b89547296904d0bd670b5c0e0a1e53d68303", func := "example.com/quorate/quorate/internal/store.LawS3433ANoteDrop", spec := "lawS3433ANoteDrop", inPlace := ["(*internal/sync.Mutex).Lock", "internal/race.Disable", "sync/atomic.CompareAndSwapInt32", "internal/race.Enable", "internal/race.Acquire", "(*internal/sync.Mutex).lockSlow", "internal/sync.runtime_canSpin", "internal/sync.runtime_doSpin", "internal/sync.throw", "internal/sync.runtime_nanotime", "internal/sync.runtime_SemacquireMutex", "sync/atomic.AddInt32", "(*internal/sync.Mutex).Unlock", "internal/race.ReleaseMerge", "(*internal/sync.Mutex).unlockSlow", "internal/sync.fatal", "internal/sync.runtime_Semrelease"], apart := false }
def LawS3433ANoteDropSaid : Prop := lawS3433ANoteDropRow.holds Yba.pinned (OpenSpec.ofChange lawS3433ANoteDropSpec)

/-- ITS FALSE NEIGHBOUR: 'it returns false'. Refute it at one input. -/
def lawS3433ANoteDropWrong : ChangeSpec := { name := "lawS3433ANoteDrop", fn := fun _ => fun
  | [d1, d2, d3, d4, d5] => { results := [.lit (.bool false)], args := [d1, d2, d3, d4, d5] }
  | _ => none }
def LawS3433ANoteDropWrongFalsely : Prop := lawS3433ANoteDropRow.holds Yba.pinned (OpenSpec.ofChange lawS3433ANoteDropWrong)

/-- 'client.LawS3433BPick': WHATEVER THE INPUT: true; the input reads as it did. -/
def lawS3433BPickSpec : ChangeSpec := { name := "lawS3433BPick", fn := fun _ => fun
  | [d1, d2, d3] => { results := [.lit (.bool true)], args := [d1, d2, d3] }
  | _ => none }
def lawS3433BPickRow : OpenClaim := { program := "ybulkbsbo", sum := "9abaec533e5ee2b2af5a1ed844d4b89547296904d0bd670b5c0e0a1e53d68303", func := "example.com/quorate/quorate/internal/client.LawS3433BPick", spec := "lawS3433BPick", unfollowed := true, recurses := true, apart := false }
def LawS3433BPickSaid : Prop := lawS3433BPickRow.holds Yba.pinned (OpenSpec.ofChange lawS3433BPickSpec)

/-- ITS FALSE NEIGHBOUR: 'it returns false'. Refute it at one input. -/
def lawS3433BPickWrong : ChangeSpec := { name := "lawS3433BPick", fn := fun _ => fun
  | [d1, d2, d3] => { results := [.lit (.bool false)], args := [d1, d2, d3] }
  | _ => none }
def LawS3433BPickWrongFalsely : Prop := lawS3433BPickRow.holds Yba.pinned (OpenSpec.ofChange lawS3433BPickWrong)

/-- 'client.LawS3433BWait': WHATEVER THE INPUT: true; the input reads as it did. -/
def lawS3433BWaitSpec : ChangeSpec := { name := "lawS3433BWait", fn := fun _ => fun
  | [d1, d2, d3] => { results := [.lit (.bool true)], args := [d1, d2, d3] }
  | _ => none }
def lawS3433BWaitRow : OpenClaim := { program := "ybulkbsbo", sum := "9abaec533e5ee2b2af5a1ed844d4b89547296904d0bd670b5c0e0a1e53d68303", func := "example.com/quorate/quorate/internal/client.LawS3433BWait", spec := "lawS3433BWait", unfollowed := true, recurses := true, apart := false }
def LawS3433BWaitSaid : Prop := lawS3433BWaitRow.holds Yba.pinned (OpenSpec.ofChange lawS3433BWaitSpec)

/-- ITS FALSE NEIGHBOUR: 'it returns false'. Refute it at one input. -/
def lawS3433BWaitWrong : ChangeSpec := { name := "lawS3433BWait", fn := fun _ => fun
  | [d1, d2, d3] => { results := [.lit (.bool false)], args := [d1, d2, d3] }
  | _ => none }
def LawS3433BWaitWrongFalsely : Prop := lawS3433BWaitRow.holds Yba.pinned (OpenSpec.ofChange lawS3433BWaitWrong)

/-- 'client.LawS3433CCopy': WHATEVER THE INPUT: true; the input reads as it did. -/
def lawS3433CCopySpec : ChangeSpec := { name := "lawS3433CCopy", fn := fun _ => fun
  | [d] => { results := [.lit (.bool true)], args := [d] }
  | _ => none }
def lawS3433CCopyRow : OpenClaim := { program := "ybulkbsbo", sum := "9abaec533e5ee2b2af5a1ed844d4b89547296904d0bd670b5c0e0a1e53d68303", func := "example.com/quorate/quorate/internal/client.LawS3433CCopy", spec := "lawS3433CCopy", inPlace := ["maps.clone"], unfollowed := true, recurses := true, apart := false }
def LawS3433CCopySaid : Prop := lawS3433CCopyRow.holds Yba.pinned (OpenSpec.ofChange lawS3433CCopySpec)

/-- ITS FALSE NEIGHBOUR: 'it returns false'. Refute it at one input. -/
def lawS3433CCopyWrong : ChangeSpec := { name := "lawS3433CCopy", fn := fun _ => fun
  | [d] => { results := [.lit (.bool false)], args := [d] }
  | _ => none }
def LawS3433CCopyWrongFalsely : Prop := lawS3433CCopyRow.holds Yba.pinned (OpenSpec.ofChange lawS3433CCopyWrong)

end Rows
end Go.Proofs.Ybulkbsbo
