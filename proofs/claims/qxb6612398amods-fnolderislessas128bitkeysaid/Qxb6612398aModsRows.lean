/-
  No cell of these rows narrows 'for every input' (looked for: loops, veiled, ifaces, maps, wideKeys, modest, calm, conditions, laid).
  DERIVED. THE GIVEN ROWS OF THIS SEAT. 3 by the template 'for every input the law returns true; each argument reads behind the call as it read before'; 0 by the template 'total and deterministic' (their statements: Qxb6612398aModsTotals.lean).
  GIVEN WITH THE SEED: the statements are not yours to turn. If you find one false, say at which input.
  Laid BY PROGRAM, IN A SANDBOX (cutbox-rows.mjs): the forced cells as the released guide's own fill.sh prints them over the translation c0f8eb8f2fb85de1… (all of the seat's roots in one cut). By AI agents, Wed Nov 11 2026. No macro, syntax, notation, axiom, sorry.
-/
import Derived.Test.Qxb6612398aModsChecked
import GoSem.Claim
import GoSem.ClaimJoined
import GoSem.ClaimMapViews
import Derived.JoinedTies
import Derived.KernelRfl
namespace Go.Proofs.Qxb6612398aMods
/- THE CELL 'sum', in the pinned program and in every row, IS THE sha256 OF THE DUMP (.gsa) THAT Qxb6612398aModsProg.lean LOADS. Nothing in Lean hashes anything: it is a label: what it is worth is what the hold of that sum in a sandbox is worth. -/
noncomputable def Trym.pinned : Pinned := { name := "qxb6612398amods", sum := "c0f8eb8f2fb85de1850831dbb0a484dadafb56f38249882860b2604f9b18257d", checked := Trym.checked }
namespace Rows
def none {H : Type} : Left H := { results := [], args := [] }

/-- 'zzlaws_coarselock_b1.FnOlderIsLessAs128BitKey': WHATEVER THE INPUT: true; the input reads as it did. -/
def fnOlderIsLessAs128BitKeySpec : ChangeSpec := { name := "fnOlderIsLessAs128BitKey", fn := fun _ => fun
  | [d1, d2, d3, d4, d5, d6, d7, d8, d9, d10] => { results := [.lit (.bool true)], args := [d1, d2, d3, d4, d5, d6, d7, d8, d9, d10] }
  | _ => none }
def fnOlderIsLessAs128BitKeyRow : OpenClaim := { program := "qxb6612398amods", sum := "c0f8eb8f2fb85de1850831dbb0a484dadafb56f38249882860b2604f9b18257d", func := "example.com/coarse-lock-service/coarse-lock-service/zzlaws_coarselock_b1.FnOlderIsLessAs128BitKey", spec := "fnOlderIsLessAs128BitKey", make := .lifted ["publicsums"], apart := false }
def FnOlderIsLessAs128BitKeySaid : Prop := fnOlderIsLessAs128BitKeyRow.holds Trym.pinned (OpenSpec.ofChange fnOlderIsLessAs128BitKeySpec)

/-- ITS FALSE NEIGHBOUR: 'it returns false'. Refute it at one input. -/
def fnOlderIsLessAs128BitKeyWrong : ChangeSpec := { name := "fnOlderIsLessAs128BitKey", fn := fun _ => fun
  | [d1, d2, d3, d4, d5, d6, d7, d8, d9, d10] => { results := [.lit (.bool false)], args := [d1, d2, d3, d4, d5, d6, d7, d8, d9, d10] }
  | _ => none }
def FnOlderIsLessAs128BitKeyWrongFalsely : Prop := fnOlderIsLessAs128BitKeyRow.holds Trym.pinned (OpenSpec.ofChange fnOlderIsLessAs128BitKeyWrong)

/-- 'zzlaws_coarselock_b1.FnOlderIsStrictOrderOnKeyAlone': WHATEVER THE INPUT: true; the input reads as it did. -/
def fnOlderIsStrictOrderOnKeyAloneSpec : ChangeSpec := { name := "fnOlderIsStrictOrderOnKeyAlone", fn := fun _ => fun
  | [d1, d2, d3, d4, d5, d6, d7, d8, d9, d10] => { results := [.lit (.bool true)], args := [d1, d2, d3, d4, d5, d6, d7, d8, d9, d10] }
  | _ => none }
def fnOlderIsStrictOrderOnKeyAloneRow : OpenClaim := { program := "qxb6612398amods", sum := "c0f8eb8f2fb85de1850831dbb0a484dadafb56f38249882860b2604f9b18257d", func := "example.com/coarse-lock-service/coarse-lock-service/zzlaws_coarselock_b1.FnOlderIsStrictOrderOnKeyAlone", spec := "fnOlderIsStrictOrderOnKeyAlone", make := .lifted ["publicsums"], apart := false }
def FnOlderIsStrictOrderOnKeyAloneSaid : Prop := fnOlderIsStrictOrderOnKeyAloneRow.holds Trym.pinned (OpenSpec.ofChange fnOlderIsStrictOrderOnKeyAloneSpec)

/-- ITS FALSE NEIGHBOUR: 'it returns false'. Refute it at one input. -/
def fnOlderIsStrictOrderOnKeyAloneWrong : ChangeSpec := { name := "fnOlderIsStrictOrderOnKeyAlone", fn := fun _ => fun
  | [d1, d2, d3, d4, d5, d6, d7, d8, d9, d10] => { results := [.lit (.bool false)], args := [d1, d2, d3, d4, d5, d6, d7, d8, d9, d10] }
  | _ => none }
def FnOlderIsStrictOrderOnKeyAloneWrongFalsely : Prop := fnOlderIsStrictOrderOnKeyAloneRow.holds Trym.pinned (OpenSpec.ofChange fnOlderIsStrictOrderOnKeyAloneWrong)

/-- 'zzlaws_coarselock_b1.FnOpenedGroupsLiveHandlesByName': WHATEVER THE INPUT: true; the input reads as it did. -/
def fnOpenedGroupsLiveHandlesByNameSpec : ChangeSpec := { name := "fnOpenedGroupsLiveHandlesByName", fn := fun _ => fun
  | [d1, d2] => { results := [.lit (.bool true)], args := [d1, d2] }
  | _ => none }
def fnOpenedGroupsLiveHandlesByNameRow : OpenClaim := { program := "qxb6612398amods", sum := "c0f8eb8f2fb85de1850831dbb0a484dadafb56f38249882860b2604f9b18257d", func := "example.com/coarse-lock-service/coarse-lock-service/zzlaws_coarselock_b1.FnOpenedGroupsLiveHandlesByName", spec := "fnOpenedGroupsLiveHandlesByName", inPlace := ["sync/atomic.StoreUint32", "sync/atomic.StoreUint64", "(*internal/sync.Mutex).Lock", "internal/race.Disable", "sync/atomic.CompareAndSwapInt32", "internal/race.Enable", "internal/race.Acquire", "(*internal/sync.Mutex).lockSlow", "internal/sync.runtime_canSpin", "internal/sync.runtime_doSpin", "internal/sync.throw", "internal/sync.runtime_nanotime", "internal/sync.runtime_SemacquireMutex", "sync/atomic.AddInt32", "(*internal/sync.Mutex).Unlock", "internal/race.ReleaseMerge", "(*internal/sync.Mutex).unlockSlow", "internal/sync.fatal", "internal/sync.runtime_Semrelease", "sync/atomic.StorePointer", "sync/atomic.LoadPointer"], make := .lifted ["publicsums"], apart := false }
def FnOpenedGroupsLiveHandlesByNameSaid : Prop := fnOpenedGroupsLiveHandlesByNameRow.holds Trym.pinned (OpenSpec.ofChange fnOpenedGroupsLiveHandlesByNameSpec)

/-- ITS FALSE NEIGHBOUR: 'it returns false'. Refute it at one input. -/
def fnOpenedGroupsLiveHandlesByNameWrong : ChangeSpec := { name := "fnOpenedGroupsLiveHandlesByName", fn := fun _ => fun
  | [d1, d2] => { results := [.lit (.bool false)], args := [d1, d2] }
  | _ => none }
def FnOpenedGroupsLiveHandlesByNameWrongFalsely : Prop := fnOpenedGroupsLiveHandlesByNameRow.holds Trym.pinned (OpenSpec.ofChange fnOpenedGroupsLiveHandlesByNameWrong)

end Rows
end Go.Proofs.Qxb6612398aMods
