/-
  No cell of these rows narrows 'for every input' (looked for: loops, veiled, ifaces, maps, wideKeys, modest, calm, conditions, laid).
  DERIVED. THE GIVEN ROWS OF THIS SEAT. 3 by the template 'for every input the law returns true; each argument reads behind the call as it read before'; 0 by the template 'total and deterministic' (their statements: Qxb6615954aTotals.lean).
  GIVEN WITH THE SEED: the statements are not yours to turn. If you find one false, say at which input.
  Laid BY PROGRAM, IN A SANDBOX (cutbox-rows.mjs): the forced cells as the released guide's own fill.sh prints them over the translation f8b24f78057ff551… (all of the seat's roots in one cut). By AI agents, Wed Nov 11 2026. No macro, syntax, notation, axiom, sorry.
-/
import Derived.Test.Qxb6615954aChecked
import GoSem.Claim
import GoSem.ClaimJoined
import GoSem.ClaimMapViews
import Derived.JoinedTies
import Derived.KernelRfl
namespace Go.Proofs.Qxb6615954a
/- THE CELL 'sum', in the pinned program and in every row, IS THE sha256 OF THE DUMP (.gsa) THAT Qxb6615954aProg.lean LOADS. Nothing in Lean hashes anything: it is a label: what it is worth is what the hold of that sum in a sandbox is worth. -/
noncomputable def Try.pinned : Pinned := { name := "qxb6615954a", sum := "f8b24f78057ff551f77cc936655347acf26141e3992950897f7df4cd4986e57a", checked := Try.checked }
namespace Rows
def none {H : Type} : Left H := { results := [], args := [] }

/-- 'zzlaws_root_b1.FnLeadingNameByteCountsLettersAndUnderscore': WHATEVER THE INPUT: true; the input reads as it did. -/
def fnLeadingNameByteCountsLettersAndUnderscoreSpec : ChangeSpec := { name := "fnLeadingNameByteCountsLettersAndUnderscore", fn := fun _ => fun
  | [d] => { results := [.lit (.bool true)], args := [d] }
  | _ => none }
def fnLeadingNameByteCountsLettersAndUnderscoreRow : OpenClaim := { program := "qxb6615954a", sum := "f8b24f78057ff551f77cc936655347acf26141e3992950897f7df4cd4986e57a", func := "example.com/hamr/hamr/zzlaws_root_b1.FnLeadingNameByteCountsLettersAndUnderscore", spec := "fnLeadingNameByteCountsLettersAndUnderscore", apart := false }
def FnLeadingNameByteCountsLettersAndUnderscoreSaid : Prop := fnLeadingNameByteCountsLettersAndUnderscoreRow.holds Try.pinned (OpenSpec.ofChange fnLeadingNameByteCountsLettersAndUnderscoreSpec)

/-- ITS FALSE NEIGHBOUR: 'it returns false'. Refute it at one input. -/
def fnLeadingNameByteCountsLettersAndUnderscoreWrong : ChangeSpec := { name := "fnLeadingNameByteCountsLettersAndUnderscore", fn := fun _ => fun
  | [d] => { results := [.lit (.bool false)], args := [d] }
  | _ => none }
def FnLeadingNameByteCountsLettersAndUnderscoreWrongFalsely : Prop := fnLeadingNameByteCountsLettersAndUnderscoreRow.holds Try.pinned (OpenSpec.ofChange fnLeadingNameByteCountsLettersAndUnderscoreWrong)

/-- 'zzlaws_root_b1.FnAliasedToolAnswersAsTheList': WHATEVER THE INPUT: true; the input reads as it did. -/
def fnAliasedToolAnswersAsTheListSpec : ChangeSpec := { name := "fnAliasedToolAnswersAsTheList", fn := fun _ => fun
  | [d1, d2, d3] => { results := [.lit (.bool true)], args := [d1, d2, d3] }
  | _ => none }
def fnAliasedToolAnswersAsTheListRow : OpenClaim := { program := "qxb6615954a", sum := "f8b24f78057ff551f77cc936655347acf26141e3992950897f7df4cd4986e57a", func := "example.com/hamr/hamr/zzlaws_root_b1.FnAliasedToolAnswersAsTheList", spec := "fnAliasedToolAnswersAsTheList", inPlace := ["(*internal/sync.Mutex).Lock", "internal/race.Disable", "sync/atomic.CompareAndSwapInt32", "internal/race.Enable", "internal/race.Acquire", "(*internal/sync.Mutex).lockSlow", "internal/sync.runtime_canSpin", "internal/sync.runtime_doSpin", "internal/sync.throw", "internal/sync.runtime_nanotime", "internal/sync.runtime_SemacquireMutex", "sync/atomic.AddInt32", "(*internal/sync.Mutex).Unlock", "internal/race.ReleaseMerge", "(*internal/sync.Mutex).unlockSlow", "internal/sync.fatal", "internal/sync.runtime_Semrelease"], apart := false }
def FnAliasedToolAnswersAsTheListSaid : Prop := fnAliasedToolAnswersAsTheListRow.holds Try.pinned (OpenSpec.ofChange fnAliasedToolAnswersAsTheListSpec)

/-- ITS FALSE NEIGHBOUR: 'it returns false'. Refute it at one input. -/
def fnAliasedToolAnswersAsTheListWrong : ChangeSpec := { name := "fnAliasedToolAnswersAsTheList", fn := fun _ => fun
  | [d1, d2, d3] => { results := [.lit (.bool false)], args := [d1, d2, d3] }
  | _ => none }
def FnAliasedToolAnswersAsTheListWrongFalsely : Prop := fnAliasedToolAnswersAsTheListRow.holds Try.pinned (OpenSpec.ofChange fnAliasedToolAnswersAsTheListWrong)

/-- 'zzlaws_root_b1.FnAliasedToolAnswersEveryKeptAliasTwice': WHATEVER THE INPUT: true; the input reads as it did. -/
def fnAliasedToolAnswersEveryKeptAliasTwiceSpec : ChangeSpec := { name := "fnAliasedToolAnswersEveryKeptAliasTwice", fn := fun _ => fun
  | [d1, d2] => { results := [.lit (.bool true)], args := [d1, d2] }
  | _ => none }
def fnAliasedToolAnswersEveryKeptAliasTwiceRow : OpenClaim := { program := "qxb6615954a", sum := "f8b24f78057ff551f77cc936655347acf26141e3992950897f7df4cd4986e57a", func := "example.com/hamr/hamr/zzlaws_root_b1.FnAliasedToolAnswersEveryKeptAliasTwice", spec := "fnAliasedToolAnswersEveryKeptAliasTwice", inPlace := ["(*internal/sync.Mutex).Lock", "internal/race.Disable", "sync/atomic.CompareAndSwapInt32", "internal/race.Enable", "internal/race.Acquire", "(*internal/sync.Mutex).lockSlow", "internal/sync.runtime_canSpin", "internal/sync.runtime_doSpin", "internal/sync.throw", "internal/sync.runtime_nanotime", "internal/sync.runtime_SemacquireMutex", "sync/atomic.AddInt32", "(*internal/sync.Mutex).Unlock", "internal/race.ReleaseMerge", "(*internal/sync.Mutex).unlockSlow", "internal/sync.fatal", "internal/sync.runtime_Semrelease"], apart := false }
def FnAliasedToolAnswersEveryKeptAliasTwiceSaid : Prop := fnAliasedToolAnswersEveryKeptAliasTwiceRow.holds Try.pinned (OpenSpec.ofChange fnAliasedToolAnswersEveryKeptAliasTwiceSpec)

/-- ITS FALSE NEIGHBOUR: 'it returns false'. Refute it at one input. -/
def fnAliasedToolAnswersEveryKeptAliasTwiceWrong : ChangeSpec := { name := "fnAliasedToolAnswersEveryKeptAliasTwice", fn := fun _ => fun
  | [d1, d2] => { results := [.lit (.bool false)], args := [d1, d2] }
  | _ => none }
def FnAliasedToolAnswersEveryKeptAliasTwiceWrongFalsely : Prop := fnAliasedToolAnswersEveryKeptAliasTwiceRow.holds Try.pinned (OpenSpec.ofChange fnAliasedToolAnswersEveryKeptAliasTwiceWrong)

end Rows
end Go.Proofs.Qxb6615954a
