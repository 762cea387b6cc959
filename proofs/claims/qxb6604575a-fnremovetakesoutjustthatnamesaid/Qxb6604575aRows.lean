/-
  No cell of these rows narrows 'for every input' (looked for: loops, veiled, ifaces, maps, wideKeys, modest, calm, conditions, laid).
  DERIVED. THE GIVEN ROWS OF THIS SEAT. 2 by the template 'for every input the law returns true; each argument reads behind the call as it read before'; 0 by the template 'total and deterministic' (their statements: Qxb6604575aTotals.lean).
  GIVEN WITH THE SEED: the statements are not yours to turn. If you find one false, say at which input.
  Laid BY PROGRAM, IN A SANDBOX (cutbox-rows.mjs): the forced cells as the released guide's own fill.sh prints them over the translation 4f43d11d1b00a3ce… (all of the seat's roots in one cut). By AI agents, Wed Nov 11 2026. No macro, syntax, notation, axiom, sorry.
-/
import Derived.Test.Qxb6604575aChecked
import GoSem.Claim
import GoSem.ClaimJoined
import GoSem.ClaimMapViews
import Derived.JoinedTies
import Derived.KernelRfl
namespace Go.Proofs.Qxb6604575a
/- THE CELL 'sum', in the pinned program and in every row, IS THE sha256 OF THE DUMP (.gsa) THAT Qxb6604575aProg.lean LOADS. Nothing in Lean hashes anything: it is a label: what it is worth is what the hold of that sum in a sandbox is worth. -/
noncomputable def Try.pinned : Pinned := { name := "qxb6604575a", sum := "4f43d11d1b00a3ce3b344fc1adb796738cc053ef2130991d9099a458461368bf", checked := Try.checked }
namespace Rows
def none {H : Type} : Left H := { results := [], args := [] }

/-- 'zzlaws_root_b1.FnIndexFindsEachName': WHATEVER THE INPUT: true; the input reads as it did. -/
def fnIndexFindsEachNameSpec : ChangeSpec := { name := "fnIndexFindsEachName", fn := fun _ => fun
  | [d1, d2] => { results := [.lit (.bool true)], args := [d1, d2] }
  | _ => none }
def fnIndexFindsEachNameRow : OpenClaim := { program := "qxb6604575a", sum := "4f43d11d1b00a3ce3b344fc1adb796738cc053ef2130991d9099a458461368bf", func := "example.com/libmcpchain/libmcpchain/zzlaws_root_b1.FnIndexFindsEachName", spec := "fnIndexFindsEachName", apart := false }
def FnIndexFindsEachNameSaid : Prop := fnIndexFindsEachNameRow.holds Try.pinned (OpenSpec.ofChange fnIndexFindsEachNameSpec)

/-- ITS FALSE NEIGHBOUR: 'it returns false'. Refute it at one input. -/
def fnIndexFindsEachNameWrong : ChangeSpec := { name := "fnIndexFindsEachName", fn := fun _ => fun
  | [d1, d2] => { results := [.lit (.bool false)], args := [d1, d2] }
  | _ => none }
def FnIndexFindsEachNameWrongFalsely : Prop := fnIndexFindsEachNameRow.holds Try.pinned (OpenSpec.ofChange fnIndexFindsEachNameWrong)

/-- 'zzlaws_root_b1.FnRemoveTakesOutJustThatName': WHATEVER THE INPUT: true; the input reads as it did. -/
def fnRemoveTakesOutJustThatNameSpec : ChangeSpec := { name := "fnRemoveTakesOutJustThatName", fn := fun _ => fun
  | [d1, d2] => { results := [.lit (.bool true)], args := [d1, d2] }
  | _ => none }
def fnRemoveTakesOutJustThatNameRow : OpenClaim := { program := "qxb6604575a", sum := "4f43d11d1b00a3ce3b344fc1adb796738cc053ef2130991d9099a458461368bf", func := "example.com/libmcpchain/libmcpchain/zzlaws_root_b1.FnRemoveTakesOutJustThatName", spec := "fnRemoveTakesOutJustThatName", inPlace := ["(*sync.RWMutex).Lock", "internal/race.Read", "internal/race.Disable", "(*internal/sync.Mutex).Lock", "sync/atomic.CompareAndSwapInt32", "internal/race.Enable", "internal/race.Acquire", "(*internal/sync.Mutex).lockSlow", "internal/sync.runtime_canSpin", "internal/sync.runtime_doSpin", "internal/sync.throw", "internal/sync.runtime_nanotime", "internal/sync.runtime_SemacquireMutex", "sync/atomic.AddInt32", "sync.runtime_SemacquireRWMutex", "(*sync.RWMutex).Unlock", "internal/race.Release", "internal/race.ReleaseMerge", "sync.fatal", "sync.runtime_Semrelease", "(*internal/sync.Mutex).Unlock", "(*internal/sync.Mutex).unlockSlow", "internal/sync.fatal", "internal/sync.runtime_Semrelease"], apart := false }
def FnRemoveTakesOutJustThatNameSaid : Prop := fnRemoveTakesOutJustThatNameRow.holds Try.pinned (OpenSpec.ofChange fnRemoveTakesOutJustThatNameSpec)

/-- ITS FALSE NEIGHBOUR: 'it returns false'. Refute it at one input. -/
def fnRemoveTakesOutJustThatNameWrong : ChangeSpec := { name := "fnRemoveTakesOutJustThatName", fn := fun _ => fun
  | [d1, d2] => { results := [.lit (.bool false)], args := [d1, d2] }
  | _ => none }
def FnRemoveTakesOutJustThatNameWrongFalsely : Prop := fnRemoveTakesOutJustThatNameRow.holds Try.pinned (OpenSpec.ofChange fnRemoveTakesOutJustThatNameWrong)

end Rows
end Go.Proofs.Qxb6604575a
