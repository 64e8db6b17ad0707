/-
  No cell of these rows narrows 'for every input' (looked for: loops, veiled, ifaces, maps, wideKeys, modest, calm, conditions, laid).
  DERIVED. THE GIVEN ROWS OF THIS SEAT. 6 by the template 'for every input the law returns true; each argument reads behind the call as it read before'; 0 by the template 'total and deterministic' (their statements: YtgehgiafhfgacaaFmtTotals.lean).
  GIVEN WITH THE SEED: the statements are not yours to turn. If you find one false, say at which input.
  Laid BY PROGRAM, IN A SANDBOX (cutbox-rows.mjs): the forced cells as the released guide's own fill.sh prints them over the translation 683fe083b7faa1a2… (all of the seat's roots in one cut). By AI agents, Wed Nov 11 2026. No macro, syntax, notation, axiom, sorry.
-/
import Derived.Test.YtgehgiafhfgacaaFmtChecked
import GoSem.Claim
import GoSem.ClaimJoined
import GoSem.ClaimMapViews
import Derived.JoinedTies
import Derived.KernelRfl
namespace Go.Proofs.YtgehgiafhfgacaaFmt
/- THE CELL 'sum', in the pinned program and in every row, IS THE sha256 OF THE DUMP (.gsa) THAT YtgehgiafhfgacaaFmtProg.lean LOADS. Nothing in Lean hashes anything: it is a label: what it is worth is what the hold of that sum in a sandbox is worth. -/
noncomputable def Tryf.pinned : Pinned := { name := "ytgehgiafhfgacaafmt", sum := "683fe083b7faa1a2663679384ff96c53c639186fbfb71020e750cdb2a51fecf5", checked := Tryf.checked }
namespace Rows
def none {H : Type} : Left H := { results := [], args := [] }

/-- 'laws.FnColumn': WHATEVER THE INPUT: true; the input reads as it did. -/
def fnColumnSpec : ChangeSpec := { name := "fnColumn", fn := fun _ => fun
  | [d1, d2, d3] => { results := [.lit (.bool true)], args := [d1, d2, d3] }
  | _ => none }
def fnColumnRow : OpenClaim := { program := "ytgehgiafhfgacaafmt", sum := "683fe083b7faa1a2663679384ff96c53c639186fbfb71020e750cdb2a51fecf5", func := "loop.example/lib-g03325/laws.FnColumn", spec := "fnColumn", stops := ["fmt.Sprintf"], inPlace := ["(*sync.RWMutex).Lock", "internal/race.Read", "internal/race.Disable", "(*internal/sync.Mutex).Lock", "sync/atomic.CompareAndSwapInt32", "internal/race.Enable", "internal/race.Acquire", "(*internal/sync.Mutex).lockSlow", "internal/sync.runtime_canSpin", "internal/sync.runtime_doSpin", "internal/sync.throw", "internal/sync.runtime_nanotime", "internal/sync.runtime_SemacquireMutex", "sync/atomic.AddInt32", "sync.runtime_SemacquireRWMutex", "(*sync.RWMutex).Unlock", "internal/race.Release", "internal/race.ReleaseMerge", "sync.fatal", "sync.runtime_Semrelease", "(*internal/sync.Mutex).Unlock", "(*internal/sync.Mutex).unlockSlow", "internal/sync.fatal", "internal/sync.runtime_Semrelease", "fmt.Sprintf", "sync/atomic.StorePointer"], unfollowed := true, recurses := true, apart := false }
/-- NO THEOREM (fmt's text is open here; it may be false): for the released tool's asking of the row's closed facts alone. THE STATEMENT IS 'FnColumnToldSaid' (YtgehgiafhfgacaaFmtCards.lean). -/
def FnColumnFormAsk : Prop := fnColumnRow.holds Tryf.pinned (OpenSpec.ofChange fnColumnSpec)

/-- ITS FALSE NEIGHBOUR: 'it returns false'. Refute it at one input. -/
def fnColumnWrong : ChangeSpec := { name := "fnColumn", fn := fun _ => fun
  | [d1, d2, d3] => { results := [.lit (.bool false)], args := [d1, d2, d3] }
  | _ => none }
def FnColumnWrongFormAsk : Prop := fnColumnRow.holds Tryf.pinned (OpenSpec.ofChange fnColumnWrong)

/-- 'laws.FnEarlier': WHATEVER THE INPUT: true; the input reads as it did. -/
def fnEarlierSpec : ChangeSpec := { name := "fnEarlier", fn := fun _ => fun
  | [d1, d2, d3] => { results := [.lit (.bool true)], args := [d1, d2, d3] }
  | _ => none }
def fnEarlierRow : OpenClaim := { program := "ytgehgiafhfgacaafmt", sum := "683fe083b7faa1a2663679384ff96c53c639186fbfb71020e750cdb2a51fecf5", func := "loop.example/lib-g03325/laws.FnEarlier", spec := "fnEarlier", stops := ["fmt.Sprintf"], inPlace := ["(*sync.RWMutex).Lock", "internal/race.Read", "internal/race.Disable", "(*internal/sync.Mutex).Lock", "sync/atomic.CompareAndSwapInt32", "internal/race.Enable", "internal/race.Acquire", "(*internal/sync.Mutex).lockSlow", "internal/sync.runtime_canSpin", "internal/sync.runtime_doSpin", "internal/sync.throw", "internal/sync.runtime_nanotime", "internal/sync.runtime_SemacquireMutex", "sync/atomic.AddInt32", "sync.runtime_SemacquireRWMutex", "(*sync.RWMutex).Unlock", "internal/race.Release", "internal/race.ReleaseMerge", "sync.fatal", "sync.runtime_Semrelease", "(*internal/sync.Mutex).Unlock", "(*internal/sync.Mutex).unlockSlow", "internal/sync.fatal", "internal/sync.runtime_Semrelease", "fmt.Sprintf", "sync/atomic.StorePointer"], unfollowed := true, recurses := true, apart := false }
/-- NO THEOREM (fmt's text is open here; it may be false): for the released tool's asking of the row's closed facts alone. THE STATEMENT IS 'FnEarlierToldSaid' (YtgehgiafhfgacaaFmtCards.lean). -/
def FnEarlierFormAsk : Prop := fnEarlierRow.holds Tryf.pinned (OpenSpec.ofChange fnEarlierSpec)

/-- ITS FALSE NEIGHBOUR: 'it returns false'. Refute it at one input. -/
def fnEarlierWrong : ChangeSpec := { name := "fnEarlier", fn := fun _ => fun
  | [d1, d2, d3] => { results := [.lit (.bool false)], args := [d1, d2, d3] }
  | _ => none }
def FnEarlierWrongFormAsk : Prop := fnEarlierRow.holds Tryf.pinned (OpenSpec.ofChange fnEarlierWrong)

/-- 'laws.FnStartBack': WHATEVER THE INPUT: true; the input reads as it did. -/
def fnStartBackSpec : ChangeSpec := { name := "fnStartBack", fn := fun _ => fun
  | [d1, d2, d3] => { results := [.lit (.bool true)], args := [d1, d2, d3] }
  | _ => none }
def fnStartBackRow : OpenClaim := { program := "ytgehgiafhfgacaafmt", sum := "683fe083b7faa1a2663679384ff96c53c639186fbfb71020e750cdb2a51fecf5", func := "loop.example/lib-g03325/laws.FnStartBack", spec := "fnStartBack", stops := ["fmt.Sprintf"], inPlace := ["(*sync.RWMutex).Lock", "internal/race.Read", "internal/race.Disable", "(*internal/sync.Mutex).Lock", "sync/atomic.CompareAndSwapInt32", "internal/race.Enable", "internal/race.Acquire", "(*internal/sync.Mutex).lockSlow", "internal/sync.runtime_canSpin", "internal/sync.runtime_doSpin", "internal/sync.throw", "internal/sync.runtime_nanotime", "internal/sync.runtime_SemacquireMutex", "sync/atomic.AddInt32", "sync.runtime_SemacquireRWMutex", "(*sync.RWMutex).Unlock", "internal/race.Release", "internal/race.ReleaseMerge", "sync.fatal", "sync.runtime_Semrelease", "(*internal/sync.Mutex).Unlock", "(*internal/sync.Mutex).unlockSlow", "internal/sync.fatal", "internal/sync.runtime_Semrelease", "fmt.Sprintf", "sync/atomic.StorePointer"], unfollowed := true, recurses := true, apart := false }
/-- NO THEOREM (fmt's text is open here; it may be false): for the released tool's asking of the row's closed facts alone. THE STATEMENT IS 'FnStartBackToldSaid' (YtgehgiafhfgacaaFmtCards.lean). -/
def FnStartBackFormAsk : Prop := fnStartBackRow.holds Tryf.pinned (OpenSpec.ofChange fnStartBackSpec)

/-- ITS FALSE NEIGHBOUR: 'it returns false'. Refute it at one input. -/
def fnStartBackWrong : ChangeSpec := { name := "fnStartBack", fn := fun _ => fun
  | [d1, d2, d3] => { results := [.lit (.bool false)], args := [d1, d2, d3] }
  | _ => none }
def FnStartBackWrongFormAsk : Prop := fnStartBackRow.holds Tryf.pinned (OpenSpec.ofChange fnStartBackWrong)

/-- 'laws.FnStartColumn': WHATEVER THE INPUT: true; the input reads as it did. -/
def fnStartColumnSpec : ChangeSpec := { name := "fnStartColumn", fn := fun _ => fun
  | [d1, d2, d3] => { results := [.lit (.bool true)], args := [d1, d2, d3] }
  | _ => none }
def fnStartColumnRow : OpenClaim := { program := "ytgehgiafhfgacaafmt", sum := "683fe083b7faa1a2663679384ff96c53c639186fbfb71020e750cdb2a51fecf5", func := "loop.example/lib-g03325/laws.FnStartColumn", spec := "fnStartColumn", stops := ["fmt.Sprintf"], inPlace := ["(*sync.RWMutex).Lock", "internal/race.Read", "internal/race.Disable", "(*internal/sync.Mutex).Lock", "sync/atomic.CompareAndSwapInt32", "internal/race.Enable", "internal/race.Acquire", "(*internal/sync.Mutex).lockSlow", "internal/sync.runtime_canSpin", "internal/sync.runtime_doSpin", "internal/sync.throw", "internal/sync.runtime_nanotime", "internal/sync.runtime_SemacquireMutex", "sync/atomic.AddInt32", "sync.runtime_SemacquireRWMutex", "(*sync.RWMutex).Unlock", "internal/race.Release", "internal/race.ReleaseMerge", "sync.fatal", "sync.runtime_Semrelease", "(*internal/sync.Mutex).Unlock", "(*internal/sync.Mutex).unlockSlow", "internal/sync.fatal", "internal/sync.runtime_Semrelease", "fmt.Sprintf", "sync/atomic.StorePointer"], unfollowed := true, recurses := true, apart := false }
/-- NO THEOREM (fmt's text is open here; it may be false): for the released tool's asking of the row's closed facts alone. THE STATEMENT IS 'FnStartColumnToldSaid' (YtgehgiafhfgacaaFmtCards.lean). -/
def FnStartColumnFormAsk : Prop := fnStartColumnRow.holds Tryf.pinned (OpenSpec.ofChange fnStartColumnSpec)

/-- ITS FALSE NEIGHBOUR: 'it returns false'. Refute it at one input. -/
def fnStartColumnWrong : ChangeSpec := { name := "fnStartColumn", fn := fun _ => fun
  | [d1, d2, d3] => { results := [.lit (.bool false)], args := [d1, d2, d3] }
  | _ => none }
def FnStartColumnWrongFormAsk : Prop := fnStartColumnRow.holds Tryf.pinned (OpenSpec.ofChange fnStartColumnWrong)

/-- 'laws.FnAddedSet': WHATEVER THE INPUT: true; the input reads as it did. -/
def fnAddedSetSpec : ChangeSpec := { name := "fnAddedSet", fn := fun _ => fun
  | [d1, d2, d3] => { results := [.lit (.bool true)], args := [d1, d2, d3] }
  | _ => none }
def fnAddedSetRow : OpenClaim := { program := "ytgehgiafhfgacaafmt", sum := "683fe083b7faa1a2663679384ff96c53c639186fbfb71020e750cdb2a51fecf5", func := "loop.example/lib-g03325/laws.FnAddedSet", spec := "fnAddedSet", stops := ["fmt.Sprintf"], inPlace := ["(*sync.RWMutex).Lock", "internal/race.Read", "internal/race.Disable", "(*internal/sync.Mutex).Lock", "sync/atomic.CompareAndSwapInt32", "internal/race.Enable", "internal/race.Acquire", "(*internal/sync.Mutex).lockSlow", "internal/sync.runtime_canSpin", "internal/sync.runtime_doSpin", "internal/sync.throw", "internal/sync.runtime_nanotime", "internal/sync.runtime_SemacquireMutex", "sync/atomic.AddInt32", "sync.runtime_SemacquireRWMutex", "(*sync.RWMutex).Unlock", "internal/race.Release", "internal/race.ReleaseMerge", "sync.fatal", "sync.runtime_Semrelease", "(*internal/sync.Mutex).Unlock", "(*internal/sync.Mutex).unlockSlow", "internal/sync.fatal", "internal/sync.runtime_Semrelease", "fmt.Sprintf", "sync/atomic.StorePointer"], unfollowed := true, recurses := true, apart := false }
/-- NO THEOREM (fmt's text is open here; it may be false): for the released tool's asking of the row's closed facts alone. THE STATEMENT IS 'FnAddedSetToldSaid' (YtgehgiafhfgacaaFmtCards.lean). -/
def FnAddedSetFormAsk : Prop := fnAddedSetRow.holds Tryf.pinned (OpenSpec.ofChange fnAddedSetSpec)

/-- ITS FALSE NEIGHBOUR: 'it returns false'. Refute it at one input. -/
def fnAddedSetWrong : ChangeSpec := { name := "fnAddedSet", fn := fun _ => fun
  | [d1, d2, d3] => { results := [.lit (.bool false)], args := [d1, d2, d3] }
  | _ => none }
def FnAddedSetWrongFormAsk : Prop := fnAddedSetRow.holds Tryf.pinned (OpenSpec.ofChange fnAddedSetWrong)

/-- 'laws.FnSetPosition': WHATEVER THE INPUT: true; the input reads as it did. -/
def fnSetPositionSpec : ChangeSpec := { name := "fnSetPosition", fn := fun _ => fun
  | [d1, d2] => { results := [.lit (.bool true)], args := [d1, d2] }
  | _ => none }
def fnSetPositionRow : OpenClaim := { program := "ytgehgiafhfgacaafmt", sum := "683fe083b7faa1a2663679384ff96c53c639186fbfb71020e750cdb2a51fecf5", func := "loop.example/lib-g03325/laws.FnSetPosition", spec := "fnSetPosition", stops := ["fmt.Sprintf"], inPlace := ["(*sync.RWMutex).Lock", "internal/race.Read", "internal/race.Disable", "(*internal/sync.Mutex).Lock", "sync/atomic.CompareAndSwapInt32", "internal/race.Enable", "internal/race.Acquire", "(*internal/sync.Mutex).lockSlow", "internal/sync.runtime_canSpin", "internal/sync.runtime_doSpin", "internal/sync.throw", "internal/sync.runtime_nanotime", "internal/sync.runtime_SemacquireMutex", "sync/atomic.AddInt32", "sync.runtime_SemacquireRWMutex", "(*sync.RWMutex).Unlock", "internal/race.Release", "internal/race.ReleaseMerge", "sync.fatal", "sync.runtime_Semrelease", "(*internal/sync.Mutex).Unlock", "(*internal/sync.Mutex).unlockSlow", "internal/sync.fatal", "internal/sync.runtime_Semrelease", "fmt.Sprintf", "sync/atomic.StorePointer", "sync/atomic.LoadPointer", "(*sync.RWMutex).RLock", "sync.runtime_SemacquireRWMutexR", "(*sync.RWMutex).RUnlock", "(*sync.RWMutex).rUnlockSlow"], unfollowed := true, recurses := true, apart := false }
/-- NO THEOREM (fmt's text is open here; it may be false): for the released tool's asking of the row's closed facts alone. THE STATEMENT IS 'FnSetPositionToldSaid' (YtgehgiafhfgacaaFmtCards.lean). -/
def FnSetPositionFormAsk : Prop := fnSetPositionRow.holds Tryf.pinned (OpenSpec.ofChange fnSetPositionSpec)

/-- ITS FALSE NEIGHBOUR: 'it returns false'. Refute it at one input. -/
def fnSetPositionWrong : ChangeSpec := { name := "fnSetPosition", fn := fun _ => fun
  | [d1, d2] => { results := [.lit (.bool false)], args := [d1, d2] }
  | _ => none }
def FnSetPositionWrongFormAsk : Prop := fnSetPositionRow.holds Tryf.pinned (OpenSpec.ofChange fnSetPositionWrong)

end Rows
end Go.Proofs.YtgehgiafhfgacaaFmt
