/-
  No cell of these rows narrows 'for every input' (looked for: loops, veiled, ifaces, maps, wideKeys, modest, calm, conditions, laid).
  DERIVED. THE GIVEN ROWS OF THIS SEAT. 12 by the template 'for every input the law returns true; each argument reads behind the call as it read before'; 0 by the template 'total and deterministic' (their statements: YtigjdicghjofoaaFmtTotals.lean).
  GIVEN WITH THE SEED: the statements are not yours to turn. If you find one false, say at which input.
  Laid BY PROGRAM, IN A SANDBOX (cutbox-rows.mjs): the forced cells as the released guide's own fill.sh prints them over the translation c2debf336bc85400… (all of the seat's roots in one cut). By AI agents, Wed Nov 11 2026. No macro, syntax, notation, axiom, sorry.
-/
import Derived.Test.YtigjdicghjofoaaFmtChecked
import GoSem.Claim
import GoSem.ClaimJoined
import GoSem.ClaimMapViews
import Derived.JoinedTies
import Derived.KernelRfl
namespace Go.Proofs.YtigjdicghjofoaaFmt
/- THE CELL 'sum', in the pinned program and in every row, IS THE sha256 OF THE DUMP (.gsa) THAT YtigjdicghjofoaaFmtProg.lean LOADS. Nothing in Lean hashes anything: it is a label: what it is worth is what the hold of that sum in a sandbox is worth. -/
noncomputable def Tryf.pinned : Pinned := { name := "ytigjdicghjofoaafmt", sum := "c2debf336bc85400a8d418de4c3fdc922612f117b10178b64a1ada5bf169ffb6", checked := Tryf.checked }
namespace Rows
def none {H : Type} : Left H := { results := [], args := [] }

/-- 'laws.FnPosBack': WHATEVER THE INPUT: true; the input reads as it did. -/
def fnPosBackSpec : ChangeSpec := { name := "fnPosBack", fn := fun _ => fun
  | [d1, d2, d3] => { results := [.lit (.bool true)], args := [d1, d2, d3] }
  | _ => none }
def fnPosBackRow : OpenClaim := { program := "ytigjdicghjofoaafmt", sum := "c2debf336bc85400a8d418de4c3fdc922612f117b10178b64a1ada5bf169ffb6", func := "loop.example/lib-g03325/laws.FnPosBack", spec := "fnPosBack", stops := ["fmt.Sprintf"], inPlace := ["(*sync.RWMutex).Lock", "internal/race.Read", "internal/race.Disable", "(*internal/sync.Mutex).Lock", "sync/atomic.CompareAndSwapInt32", "internal/race.Enable", "internal/race.Acquire", "(*internal/sync.Mutex).lockSlow", "internal/sync.runtime_canSpin", "internal/sync.runtime_doSpin", "internal/sync.throw", "internal/sync.runtime_nanotime", "internal/sync.runtime_SemacquireMutex", "sync/atomic.AddInt32", "sync.runtime_SemacquireRWMutex", "(*sync.RWMutex).Unlock", "internal/race.Release", "internal/race.ReleaseMerge", "sync.fatal", "sync.runtime_Semrelease", "(*internal/sync.Mutex).Unlock", "(*internal/sync.Mutex).unlockSlow", "internal/sync.fatal", "internal/sync.runtime_Semrelease", "fmt.Sprintf", "sync/atomic.StorePointer"], unfollowed := true, recurses := true, apart := false }
/-- NO THEOREM (fmt's text is open here; it may be false): for the released tool's asking of the row's closed facts alone. THE STATEMENT IS 'FnPosBackToldSaid' (YtigjdicghjofoaaFmtCards.lean). -/
def FnPosBackFormAsk : Prop := fnPosBackRow.holds Tryf.pinned (OpenSpec.ofChange fnPosBackSpec)

/-- ITS FALSE NEIGHBOUR: 'it returns false'. Refute it at one input. -/
def fnPosBackWrong : ChangeSpec := { name := "fnPosBack", fn := fun _ => fun
  | [d1, d2, d3] => { results := [.lit (.bool false)], args := [d1, d2, d3] }
  | _ => none }
def FnPosBackWrongFormAsk : Prop := fnPosBackRow.holds Tryf.pinned (OpenSpec.ofChange fnPosBackWrong)

/-- 'laws.FnSetBase': WHATEVER THE INPUT: true; the input reads as it did. -/
def fnSetBaseSpec : ChangeSpec := { name := "fnSetBase", fn := fun _ => fun
  | [d] => { results := [.lit (.bool true)], args := [d] }
  | _ => none }
def fnSetBaseRow : OpenClaim := { program := "ytigjdicghjofoaafmt", sum := "c2debf336bc85400a8d418de4c3fdc922612f117b10178b64a1ada5bf169ffb6", func := "loop.example/lib-g03325/laws.FnSetBase", spec := "fnSetBase", stops := ["fmt.Sprintf"], inPlace := ["(*sync.RWMutex).Lock", "internal/race.Read", "internal/race.Disable", "(*internal/sync.Mutex).Lock", "sync/atomic.CompareAndSwapInt32", "internal/race.Enable", "internal/race.Acquire", "(*internal/sync.Mutex).lockSlow", "internal/sync.runtime_canSpin", "internal/sync.runtime_doSpin", "internal/sync.throw", "internal/sync.runtime_nanotime", "internal/sync.runtime_SemacquireMutex", "sync/atomic.AddInt32", "sync.runtime_SemacquireRWMutex", "(*sync.RWMutex).Unlock", "internal/race.Release", "internal/race.ReleaseMerge", "sync.fatal", "sync.runtime_Semrelease", "(*internal/sync.Mutex).Unlock", "(*internal/sync.Mutex).unlockSlow", "internal/sync.fatal", "internal/sync.runtime_Semrelease", "fmt.Sprintf", "sync/atomic.StorePointer", "(*sync.RWMutex).RLock", "sync.runtime_SemacquireRWMutexR", "(*sync.RWMutex).RUnlock", "(*sync.RWMutex).rUnlockSlow"], unfollowed := true, recurses := true, apart := false }
/-- NO THEOREM (fmt's text is open here; it may be false): for the released tool's asking of the row's closed facts alone. THE STATEMENT IS 'FnSetBaseToldSaid' (YtigjdicghjofoaaFmtCards.lean). -/
def FnSetBaseFormAsk : Prop := fnSetBaseRow.holds Tryf.pinned (OpenSpec.ofChange fnSetBaseSpec)

/-- ITS FALSE NEIGHBOUR: 'it returns false'. Refute it at one input. -/
def fnSetBaseWrong : ChangeSpec := { name := "fnSetBase", fn := fun _ => fun
  | [d] => { results := [.lit (.bool false)], args := [d] }
  | _ => none }
def FnSetBaseWrongFormAsk : Prop := fnSetBaseRow.holds Tryf.pinned (OpenSpec.ofChange fnSetBaseWrong)

/-- 'laws.FnFileAt': WHATEVER THE INPUT: true; the input reads as it did. -/
def fnFileAtSpec : ChangeSpec := { name := "fnFileAt", fn := fun _ => fun
  | [d1, d2] => { results := [.lit (.bool true)], args := [d1, d2] }
  | _ => none }
def fnFileAtRow : OpenClaim := { program := "ytigjdicghjofoaafmt", sum := "c2debf336bc85400a8d418de4c3fdc922612f117b10178b64a1ada5bf169ffb6", func := "loop.example/lib-g03325/laws.FnFileAt", spec := "fnFileAt", stops := ["fmt.Sprintf"], inPlace := ["(*sync.RWMutex).Lock", "internal/race.Read", "internal/race.Disable", "(*internal/sync.Mutex).Lock", "sync/atomic.CompareAndSwapInt32", "internal/race.Enable", "internal/race.Acquire", "(*internal/sync.Mutex).lockSlow", "internal/sync.runtime_canSpin", "internal/sync.runtime_doSpin", "internal/sync.throw", "internal/sync.runtime_nanotime", "internal/sync.runtime_SemacquireMutex", "sync/atomic.AddInt32", "sync.runtime_SemacquireRWMutex", "(*sync.RWMutex).Unlock", "internal/race.Release", "internal/race.ReleaseMerge", "sync.fatal", "sync.runtime_Semrelease", "(*internal/sync.Mutex).Unlock", "(*internal/sync.Mutex).unlockSlow", "internal/sync.fatal", "internal/sync.runtime_Semrelease", "fmt.Sprintf", "sync/atomic.StorePointer", "sync/atomic.LoadPointer", "(*sync.RWMutex).RLock", "sync.runtime_SemacquireRWMutexR", "(*sync.RWMutex).RUnlock", "(*sync.RWMutex).rUnlockSlow"], unfollowed := true, recurses := true, apart := false }
/-- NO THEOREM (fmt's text is open here; it may be false): for the released tool's asking of the row's closed facts alone. THE STATEMENT IS 'FnFileAtToldSaid' (YtigjdicghjofoaaFmtCards.lean). -/
def FnFileAtFormAsk : Prop := fnFileAtRow.holds Tryf.pinned (OpenSpec.ofChange fnFileAtSpec)

/-- ITS FALSE NEIGHBOUR: 'it returns false'. Refute it at one input. -/
def fnFileAtWrong : ChangeSpec := { name := "fnFileAt", fn := fun _ => fun
  | [d1, d2] => { results := [.lit (.bool false)], args := [d1, d2] }
  | _ => none }
def FnFileAtWrongFormAsk : Prop := fnFileAtRow.holds Tryf.pinned (OpenSpec.ofChange fnFileAtWrong)

/-- 'laws.FnApart': WHATEVER THE INPUT: true; the input reads as it did. -/
def fnApartSpec : ChangeSpec := { name := "fnApart", fn := fun _ => fun
  | [d] => { results := [.lit (.bool true)], args := [d] }
  | _ => none }
def fnApartRow : OpenClaim := { program := "ytigjdicghjofoaafmt", sum := "c2debf336bc85400a8d418de4c3fdc922612f117b10178b64a1ada5bf169ffb6", func := "loop.example/lib-g03325/laws.FnApart", spec := "fnApart", stops := ["fmt.Sprintf"], inPlace := ["(*sync.RWMutex).Lock", "internal/race.Read", "internal/race.Disable", "(*internal/sync.Mutex).Lock", "sync/atomic.CompareAndSwapInt32", "internal/race.Enable", "internal/race.Acquire", "(*internal/sync.Mutex).lockSlow", "internal/sync.runtime_canSpin", "internal/sync.runtime_doSpin", "internal/sync.throw", "internal/sync.runtime_nanotime", "internal/sync.runtime_SemacquireMutex", "sync/atomic.AddInt32", "sync.runtime_SemacquireRWMutex", "(*sync.RWMutex).Unlock", "internal/race.Release", "internal/race.ReleaseMerge", "sync.fatal", "sync.runtime_Semrelease", "(*internal/sync.Mutex).Unlock", "(*internal/sync.Mutex).unlockSlow", "internal/sync.fatal", "internal/sync.runtime_Semrelease", "fmt.Sprintf", "sync/atomic.StorePointer", "sync/atomic.LoadPointer", "(*sync.RWMutex).RLock", "sync.runtime_SemacquireRWMutexR", "(*sync.RWMutex).RUnlock", "(*sync.RWMutex).rUnlockSlow"], unfollowed := true, recurses := true, apart := false }
/-- NO THEOREM (fmt's text is open here; it may be false): for the released tool's asking of the row's closed facts alone. THE STATEMENT IS 'FnApartToldSaid' (YtigjdicghjofoaaFmtCards.lean). -/
def FnApartFormAsk : Prop := fnApartRow.holds Tryf.pinned (OpenSpec.ofChange fnApartSpec)

/-- ITS FALSE NEIGHBOUR: 'it returns false'. Refute it at one input. -/
def fnApartWrong : ChangeSpec := { name := "fnApart", fn := fun _ => fun
  | [d] => { results := [.lit (.bool false)], args := [d] }
  | _ => none }
def FnApartWrongFormAsk : Prop := fnApartRow.holds Tryf.pinned (OpenSpec.ofChange fnApartWrong)

/-- 'laws.FnContentColumn': WHATEVER THE INPUT: true; the input reads as it did. -/
def fnContentColumnSpec : ChangeSpec := { name := "fnContentColumn", fn := fun _ => fun
  | [d1, d2] => { results := [.lit (.bool true)], args := [d1, d2] }
  | _ => none }
def fnContentColumnRow : OpenClaim := { program := "ytigjdicghjofoaafmt", sum := "c2debf336bc85400a8d418de4c3fdc922612f117b10178b64a1ada5bf169ffb6", func := "loop.example/lib-g03325/laws.FnContentColumn", spec := "fnContentColumn", stops := ["fmt.Sprintf"], inPlace := ["(*sync.RWMutex).Lock", "internal/race.Read", "internal/race.Disable", "(*internal/sync.Mutex).Lock", "sync/atomic.CompareAndSwapInt32", "internal/race.Enable", "internal/race.Acquire", "(*internal/sync.Mutex).lockSlow", "internal/sync.runtime_canSpin", "internal/sync.runtime_doSpin", "internal/sync.throw", "internal/sync.runtime_nanotime", "internal/sync.runtime_SemacquireMutex", "sync/atomic.AddInt32", "sync.runtime_SemacquireRWMutex", "(*sync.RWMutex).Unlock", "internal/race.Release", "internal/race.ReleaseMerge", "sync.fatal", "sync.runtime_Semrelease", "(*internal/sync.Mutex).Unlock", "(*internal/sync.Mutex).unlockSlow", "internal/sync.fatal", "internal/sync.runtime_Semrelease", "fmt.Sprintf", "sync/atomic.StorePointer"], unfollowed := true, recurses := true, apart := false }
/-- NO THEOREM (fmt's text is open here; it may be false): for the released tool's asking of the row's closed facts alone. THE STATEMENT IS 'FnContentColumnToldSaid' (YtigjdicghjofoaaFmtCards.lean). -/
def FnContentColumnFormAsk : Prop := fnContentColumnRow.holds Tryf.pinned (OpenSpec.ofChange fnContentColumnSpec)

/-- ITS FALSE NEIGHBOUR: 'it returns false'. Refute it at one input. -/
def fnContentColumnWrong : ChangeSpec := { name := "fnContentColumn", fn := fun _ => fun
  | [d1, d2] => { results := [.lit (.bool false)], args := [d1, d2] }
  | _ => none }
def FnContentColumnWrongFormAsk : Prop := fnContentColumnRow.holds Tryf.pinned (OpenSpec.ofChange fnContentColumnWrong)

/-- 'laws.FnLine': WHATEVER THE INPUT: true; the input reads as it did. -/
def fnLineSpec : ChangeSpec := { name := "fnLine", fn := fun _ => fun
  | [d1, d2, d3] => { results := [.lit (.bool true)], args := [d1, d2, d3] }
  | _ => none }
def fnLineRow : OpenClaim := { program := "ytigjdicghjofoaafmt", sum := "c2debf336bc85400a8d418de4c3fdc922612f117b10178b64a1ada5bf169ffb6", func := "loop.example/lib-g03325/laws.FnLine", spec := "fnLine", stops := ["fmt.Sprintf"], inPlace := ["(*sync.RWMutex).Lock", "internal/race.Read", "internal/race.Disable", "(*internal/sync.Mutex).Lock", "sync/atomic.CompareAndSwapInt32", "internal/race.Enable", "internal/race.Acquire", "(*internal/sync.Mutex).lockSlow", "internal/sync.runtime_canSpin", "internal/sync.runtime_doSpin", "internal/sync.throw", "internal/sync.runtime_nanotime", "internal/sync.runtime_SemacquireMutex", "sync/atomic.AddInt32", "sync.runtime_SemacquireRWMutex", "(*sync.RWMutex).Unlock", "internal/race.Release", "internal/race.ReleaseMerge", "sync.fatal", "sync.runtime_Semrelease", "(*internal/sync.Mutex).Unlock", "(*internal/sync.Mutex).unlockSlow", "internal/sync.fatal", "internal/sync.runtime_Semrelease", "fmt.Sprintf", "sync/atomic.StorePointer"], unfollowed := true, recurses := true, apart := false }
/-- NO THEOREM (fmt's text is open here; it may be false): for the released tool's asking of the row's closed facts alone. THE STATEMENT IS 'FnLineToldSaid' (YtigjdicghjofoaaFmtCards.lean). -/
def FnLineFormAsk : Prop := fnLineRow.holds Tryf.pinned (OpenSpec.ofChange fnLineSpec)

/-- ITS FALSE NEIGHBOUR: 'it returns false'. Refute it at one input. -/
def fnLineWrong : ChangeSpec := { name := "fnLine", fn := fun _ => fun
  | [d1, d2, d3] => { results := [.lit (.bool false)], args := [d1, d2, d3] }
  | _ => none }
def FnLineWrongFormAsk : Prop := fnLineRow.holds Tryf.pinned (OpenSpec.ofChange fnLineWrong)

/-- 'laws.FnMerged': WHATEVER THE INPUT: true; the input reads as it did. -/
def fnMergedSpec : ChangeSpec := { name := "fnMerged", fn := fun _ => fun
  | [d1, d2, d3, d4] => { results := [.lit (.bool true)], args := [d1, d2, d3, d4] }
  | _ => none }
def fnMergedRow : OpenClaim := { program := "ytigjdicghjofoaafmt", sum := "c2debf336bc85400a8d418de4c3fdc922612f117b10178b64a1ada5bf169ffb6", func := "loop.example/lib-g03325/laws.FnMerged", spec := "fnMerged", stops := ["fmt.Sprintf"], inPlace := ["(*sync.RWMutex).Lock", "internal/race.Read", "internal/race.Disable", "(*internal/sync.Mutex).Lock", "sync/atomic.CompareAndSwapInt32", "internal/race.Enable", "internal/race.Acquire", "(*internal/sync.Mutex).lockSlow", "internal/sync.runtime_canSpin", "internal/sync.runtime_doSpin", "internal/sync.throw", "internal/sync.runtime_nanotime", "internal/sync.runtime_SemacquireMutex", "sync/atomic.AddInt32", "sync.runtime_SemacquireRWMutex", "(*sync.RWMutex).Unlock", "internal/race.Release", "internal/race.ReleaseMerge", "sync.fatal", "sync.runtime_Semrelease", "(*internal/sync.Mutex).Unlock", "(*internal/sync.Mutex).unlockSlow", "internal/sync.fatal", "internal/sync.runtime_Semrelease", "fmt.Sprintf", "sync/atomic.StorePointer"], unfollowed := true, recurses := true, apart := false }
/-- NO THEOREM (fmt's text is open here; it may be false): for the released tool's asking of the row's closed facts alone. THE STATEMENT IS 'FnMergedToldSaid' (YtigjdicghjofoaaFmtCards.lean). -/
def FnMergedFormAsk : Prop := fnMergedRow.holds Tryf.pinned (OpenSpec.ofChange fnMergedSpec)

/-- ITS FALSE NEIGHBOUR: 'it returns false'. Refute it at one input. -/
def fnMergedWrong : ChangeSpec := { name := "fnMerged", fn := fun _ => fun
  | [d1, d2, d3, d4] => { results := [.lit (.bool false)], args := [d1, d2, d3, d4] }
  | _ => none }
def FnMergedWrongFormAsk : Prop := fnMergedRow.holds Tryf.pinned (OpenSpec.ofChange fnMergedWrong)

/-- 'laws.FnOutside': WHATEVER THE INPUT: true; the input reads as it did. -/
def fnOutsideSpec : ChangeSpec := { name := "fnOutside", fn := fun _ => fun
  | [d1, d2, d3] => { results := [.lit (.bool true)], args := [d1, d2, d3] }
  | _ => none }
def fnOutsideRow : OpenClaim := { program := "ytigjdicghjofoaafmt", sum := "c2debf336bc85400a8d418de4c3fdc922612f117b10178b64a1ada5bf169ffb6", func := "loop.example/lib-g03325/laws.FnOutside", spec := "fnOutside", stops := ["fmt.Sprintf"], inPlace := ["(*sync.RWMutex).Lock", "internal/race.Read", "internal/race.Disable", "(*internal/sync.Mutex).Lock", "sync/atomic.CompareAndSwapInt32", "internal/race.Enable", "internal/race.Acquire", "(*internal/sync.Mutex).lockSlow", "internal/sync.runtime_canSpin", "internal/sync.runtime_doSpin", "internal/sync.throw", "internal/sync.runtime_nanotime", "internal/sync.runtime_SemacquireMutex", "sync/atomic.AddInt32", "sync.runtime_SemacquireRWMutex", "(*sync.RWMutex).Unlock", "internal/race.Release", "internal/race.ReleaseMerge", "sync.fatal", "sync.runtime_Semrelease", "(*internal/sync.Mutex).Unlock", "(*internal/sync.Mutex).unlockSlow", "internal/sync.fatal", "internal/sync.runtime_Semrelease", "fmt.Sprintf", "sync/atomic.StorePointer"], unfollowed := true, recurses := true, apart := false }
/-- NO THEOREM (fmt's text is open here; it may be false): for the released tool's asking of the row's closed facts alone. THE STATEMENT IS 'FnOutsideToldSaid' (YtigjdicghjofoaaFmtCards.lean). -/
def FnOutsideFormAsk : Prop := fnOutsideRow.holds Tryf.pinned (OpenSpec.ofChange fnOutsideSpec)

/-- ITS FALSE NEIGHBOUR: 'it returns false'. Refute it at one input. -/
def fnOutsideWrong : ChangeSpec := { name := "fnOutside", fn := fun _ => fun
  | [d1, d2, d3] => { results := [.lit (.bool false)], args := [d1, d2, d3] }
  | _ => none }
def FnOutsideWrongFormAsk : Prop := fnOutsideRow.holds Tryf.pinned (OpenSpec.ofChange fnOutsideWrong)

/-- 'laws.FnPosition': WHATEVER THE INPUT: true; the input reads as it did. -/
def fnPositionSpec : ChangeSpec := { name := "fnPosition", fn := fun _ => fun
  | [d1, d2, d3] => { results := [.lit (.bool true)], args := [d1, d2, d3] }
  | _ => none }
def fnPositionRow : OpenClaim := { program := "ytigjdicghjofoaafmt", sum := "c2debf336bc85400a8d418de4c3fdc922612f117b10178b64a1ada5bf169ffb6", func := "loop.example/lib-g03325/laws.FnPosition", spec := "fnPosition", stops := ["fmt.Sprintf"], inPlace := ["(*sync.RWMutex).Lock", "internal/race.Read", "internal/race.Disable", "(*internal/sync.Mutex).Lock", "sync/atomic.CompareAndSwapInt32", "internal/race.Enable", "internal/race.Acquire", "(*internal/sync.Mutex).lockSlow", "internal/sync.runtime_canSpin", "internal/sync.runtime_doSpin", "internal/sync.throw", "internal/sync.runtime_nanotime", "internal/sync.runtime_SemacquireMutex", "sync/atomic.AddInt32", "sync.runtime_SemacquireRWMutex", "(*sync.RWMutex).Unlock", "internal/race.Release", "internal/race.ReleaseMerge", "sync.fatal", "sync.runtime_Semrelease", "(*internal/sync.Mutex).Unlock", "(*internal/sync.Mutex).unlockSlow", "internal/sync.fatal", "internal/sync.runtime_Semrelease", "fmt.Sprintf", "sync/atomic.StorePointer"], unfollowed := true, recurses := true, apart := false }
/-- NO THEOREM (fmt's text is open here; it may be false): for the released tool's asking of the row's closed facts alone. THE STATEMENT IS 'FnPositionToldSaid' (YtigjdicghjofoaaFmtCards.lean). -/
def FnPositionFormAsk : Prop := fnPositionRow.holds Tryf.pinned (OpenSpec.ofChange fnPositionSpec)

/-- ITS FALSE NEIGHBOUR: 'it returns false'. Refute it at one input. -/
def fnPositionWrong : ChangeSpec := { name := "fnPosition", fn := fun _ => fun
  | [d1, d2, d3] => { results := [.lit (.bool false)], args := [d1, d2, d3] }
  | _ => none }
def FnPositionWrongFormAsk : Prop := fnPositionRow.holds Tryf.pinned (OpenSpec.ofChange fnPositionWrong)

/-- 'laws.FnRises': WHATEVER THE INPUT: true; the input reads as it did. -/
def fnRisesSpec : ChangeSpec := { name := "fnRises", fn := fun _ => fun
  | [d1, d2, d3, d4] => { results := [.lit (.bool true)], args := [d1, d2, d3, d4] }
  | _ => none }
def fnRisesRow : OpenClaim := { program := "ytigjdicghjofoaafmt", sum := "c2debf336bc85400a8d418de4c3fdc922612f117b10178b64a1ada5bf169ffb6", func := "loop.example/lib-g03325/laws.FnRises", spec := "fnRises", stops := ["fmt.Sprintf"], inPlace := ["(*sync.RWMutex).Lock", "internal/race.Read", "internal/race.Disable", "(*internal/sync.Mutex).Lock", "sync/atomic.CompareAndSwapInt32", "internal/race.Enable", "internal/race.Acquire", "(*internal/sync.Mutex).lockSlow", "internal/sync.runtime_canSpin", "internal/sync.runtime_doSpin", "internal/sync.throw", "internal/sync.runtime_nanotime", "internal/sync.runtime_SemacquireMutex", "sync/atomic.AddInt32", "sync.runtime_SemacquireRWMutex", "(*sync.RWMutex).Unlock", "internal/race.Release", "internal/race.ReleaseMerge", "sync.fatal", "sync.runtime_Semrelease", "(*internal/sync.Mutex).Unlock", "(*internal/sync.Mutex).unlockSlow", "internal/sync.fatal", "internal/sync.runtime_Semrelease", "fmt.Sprintf", "sync/atomic.StorePointer"], unfollowed := true, recurses := true, apart := false }
/-- NO THEOREM (fmt's text is open here; it may be false): for the released tool's asking of the row's closed facts alone. THE STATEMENT IS 'FnRisesToldSaid' (YtigjdicghjofoaaFmtCards.lean). -/
def FnRisesFormAsk : Prop := fnRisesRow.holds Tryf.pinned (OpenSpec.ofChange fnRisesSpec)

/-- ITS FALSE NEIGHBOUR: 'it returns false'. Refute it at one input. -/
def fnRisesWrong : ChangeSpec := { name := "fnRises", fn := fun _ => fun
  | [d1, d2, d3, d4] => { results := [.lit (.bool false)], args := [d1, d2, d3, d4] }
  | _ => none }
def FnRisesWrongFormAsk : Prop := fnRisesRow.holds Tryf.pinned (OpenSpec.ofChange fnRisesWrong)

/-- 'laws.FnSetAgain': WHATEVER THE INPUT: true; the input reads as it did. -/
def fnSetAgainSpec : ChangeSpec := { name := "fnSetAgain", fn := fun _ => fun
  | [d1, d2, d3] => { results := [.lit (.bool true)], args := [d1, d2, d3] }
  | _ => none }
def fnSetAgainRow : OpenClaim := { program := "ytigjdicghjofoaafmt", sum := "c2debf336bc85400a8d418de4c3fdc922612f117b10178b64a1ada5bf169ffb6", func := "loop.example/lib-g03325/laws.FnSetAgain", spec := "fnSetAgain", stops := ["fmt.Sprintf"], inPlace := ["(*sync.RWMutex).Lock", "internal/race.Read", "internal/race.Disable", "(*internal/sync.Mutex).Lock", "sync/atomic.CompareAndSwapInt32", "internal/race.Enable", "internal/race.Acquire", "(*internal/sync.Mutex).lockSlow", "internal/sync.runtime_canSpin", "internal/sync.runtime_doSpin", "internal/sync.throw", "internal/sync.runtime_nanotime", "internal/sync.runtime_SemacquireMutex", "sync/atomic.AddInt32", "sync.runtime_SemacquireRWMutex", "(*sync.RWMutex).Unlock", "internal/race.Release", "internal/race.ReleaseMerge", "sync.fatal", "sync.runtime_Semrelease", "(*internal/sync.Mutex).Unlock", "(*internal/sync.Mutex).unlockSlow", "internal/sync.fatal", "internal/sync.runtime_Semrelease", "fmt.Sprintf", "sync/atomic.StorePointer"], unfollowed := true, recurses := true, apart := false }
/-- NO THEOREM (fmt's text is open here; it may be false): for the released tool's asking of the row's closed facts alone. THE STATEMENT IS 'FnSetAgainToldSaid' (YtigjdicghjofoaaFmtCards.lean). -/
def FnSetAgainFormAsk : Prop := fnSetAgainRow.holds Tryf.pinned (OpenSpec.ofChange fnSetAgainSpec)

/-- ITS FALSE NEIGHBOUR: 'it returns false'. Refute it at one input. -/
def fnSetAgainWrong : ChangeSpec := { name := "fnSetAgain", fn := fun _ => fun
  | [d1, d2, d3] => { results := [.lit (.bool false)], args := [d1, d2, d3] }
  | _ => none }
def FnSetAgainWrongFormAsk : Prop := fnSetAgainRow.holds Tryf.pinned (OpenSpec.ofChange fnSetAgainWrong)

/-- 'laws.FnShifted': WHATEVER THE INPUT: true; the input reads as it did. -/
def fnShiftedSpec : ChangeSpec := { name := "fnShifted", fn := fun _ => fun
  | [d1, d2, d3] => { results := [.lit (.bool true)], args := [d1, d2, d3] }
  | _ => none }
def fnShiftedRow : OpenClaim := { program := "ytigjdicghjofoaafmt", sum := "c2debf336bc85400a8d418de4c3fdc922612f117b10178b64a1ada5bf169ffb6", func := "loop.example/lib-g03325/laws.FnShifted", spec := "fnShifted", stops := ["fmt.Sprintf"], inPlace := ["(*sync.RWMutex).Lock", "internal/race.Read", "internal/race.Disable", "(*internal/sync.Mutex).Lock", "sync/atomic.CompareAndSwapInt32", "internal/race.Enable", "internal/race.Acquire", "(*internal/sync.Mutex).lockSlow", "internal/sync.runtime_canSpin", "internal/sync.runtime_doSpin", "internal/sync.throw", "internal/sync.runtime_nanotime", "internal/sync.runtime_SemacquireMutex", "sync/atomic.AddInt32", "sync.runtime_SemacquireRWMutex", "(*sync.RWMutex).Unlock", "internal/race.Release", "internal/race.ReleaseMerge", "sync.fatal", "sync.runtime_Semrelease", "(*internal/sync.Mutex).Unlock", "(*internal/sync.Mutex).unlockSlow", "internal/sync.fatal", "internal/sync.runtime_Semrelease", "fmt.Sprintf", "sync/atomic.StorePointer"], unfollowed := true, recurses := true, apart := false }
/-- NO THEOREM (fmt's text is open here; it may be false): for the released tool's asking of the row's closed facts alone. THE STATEMENT IS 'FnShiftedToldSaid' (YtigjdicghjofoaaFmtCards.lean). -/
def FnShiftedFormAsk : Prop := fnShiftedRow.holds Tryf.pinned (OpenSpec.ofChange fnShiftedSpec)

/-- ITS FALSE NEIGHBOUR: 'it returns false'. Refute it at one input. -/
def fnShiftedWrong : ChangeSpec := { name := "fnShifted", fn := fun _ => fun
  | [d1, d2, d3] => { results := [.lit (.bool false)], args := [d1, d2, d3] }
  | _ => none }
def FnShiftedWrongFormAsk : Prop := fnShiftedRow.holds Tryf.pinned (OpenSpec.ofChange fnShiftedWrong)

end Rows
end Go.Proofs.YtigjdicghjofoaaFmt
