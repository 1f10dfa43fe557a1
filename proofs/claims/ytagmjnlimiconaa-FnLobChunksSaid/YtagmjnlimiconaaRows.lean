/-
  No cell of these rows narrows 'for every input' (looked for: loops, veiled, ifaces, maps, wideKeys, modest, calm, conditions, laid).
  DERIVED. THE GIVEN ROWS OF THIS SEAT. 2 by the template 'for every input the law returns true; each argument reads behind the call as it read before'; 0 by the template 'total and deterministic' (their statements: YtagmjnlimiconaaTotals.lean).
  GIVEN WITH THE SEED: the statements are not yours to turn. If you find one false, say at which input.
  Laid BY PROGRAM, IN A SANDBOX (cutbox-rows.mjs): the forced cells as the released guide's own fill.sh prints them over the translation 94aba8a189d65682… (all of the seat's roots in one cut). By AI agents, Wed Nov 11 2026. No macro, syntax, notation, axiom, sorry.
-/
import Derived.Test.YtagmjnlimiconaaChecked
import GoSem.Claim
import GoSem.ClaimJoined
import GoSem.ClaimMapViews
import Derived.JoinedTies
import Derived.KernelRfl
namespace Go.Proofs.Ytagmjnlimiconaa
/- THE CELL 'sum', in the pinned program and in every row, IS THE sha256 OF THE DUMP (.gsa) THAT YtagmjnlimiconaaProg.lean LOADS. Nothing in Lean hashes anything: it is a label: what it is worth is what the hold of that sum in a sandbox is worth. -/
noncomputable def Try.pinned : Pinned := { name := "ytagmjnlimiconaa", sum := "94aba8a189d65682d2948e1d1d80c2abaada056f4569ae65f98f71fd774732a1", checked := Try.checked }
namespace Rows
def none {H : Type} : Left H := { results := [], args := [] }

/-- 'laws.FnLobChunks': WHATEVER THE INPUT: true; the input reads as it did. -/
def fnLobChunksSpec : ChangeSpec := { name := "fnLobChunks", fn := fun _ => fun
  | [d1, d2] => { results := [.lit (.bool true)], args := [d1, d2] }
  | _ => none }
def fnLobChunksRow : OpenClaim := { program := "ytagmjnlimiconaa", sum := "94aba8a189d65682d2948e1d1d80c2abaada056f4569ae65f98f71fd774732a1", func := "given.example/pub-anacrusis/laws.FnLobChunks", spec := "fnLobChunks", unfollowed := true, recurses := true, apart := false }
def FnLobChunksSaid : Prop := fnLobChunksRow.holds Try.pinned (OpenSpec.ofChange fnLobChunksSpec)

/-- ITS FALSE NEIGHBOUR: 'it returns false'. Refute it at one input. -/
def fnLobChunksWrong : ChangeSpec := { name := "fnLobChunks", fn := fun _ => fun
  | [d1, d2] => { results := [.lit (.bool false)], args := [d1, d2] }
  | _ => none }
def FnLobChunksWrongFalsely : Prop := fnLobChunksRow.holds Try.pinned (OpenSpec.ofChange fnLobChunksWrong)

/-- 'laws.FnCache': WHATEVER THE INPUT: true; the input reads as it did. -/
def fnCacheSpec : ChangeSpec := { name := "fnCache", fn := fun _ => fun
  | [d1, d2] => { results := [.lit (.bool true)], args := [d1, d2] }
  | _ => none }
def fnCacheRow : OpenClaim := { program := "ytagmjnlimiconaa", sum := "94aba8a189d65682d2948e1d1d80c2abaada056f4569ae65f98f71fd774732a1", func := "given.example/pub-anacrusis/laws.FnCache", spec := "fnCache", inPlace := ["(*sync.RWMutex).RLock", "internal/race.Read", "internal/race.Disable", "sync/atomic.AddInt32", "sync.runtime_SemacquireRWMutexR", "internal/race.Enable", "internal/race.Acquire", "(*sync.RWMutex).RUnlock", "internal/race.ReleaseMerge", "(*sync.RWMutex).rUnlockSlow", "sync.fatal", "sync.runtime_Semrelease", "(*sync.RWMutex).Lock", "(*internal/sync.Mutex).Lock", "sync/atomic.CompareAndSwapInt32", "(*internal/sync.Mutex).lockSlow", "internal/sync.runtime_canSpin", "internal/sync.runtime_doSpin", "internal/sync.throw", "internal/sync.runtime_nanotime", "internal/sync.runtime_SemacquireMutex", "sync.runtime_SemacquireRWMutex", "(*sync.RWMutex).Unlock", "internal/race.Release", "(*internal/sync.Mutex).Unlock", "(*internal/sync.Mutex).unlockSlow", "internal/sync.fatal", "internal/sync.runtime_Semrelease"], unfollowed := true, recurses := true, apart := false }
def FnCacheSaid : Prop := fnCacheRow.holds Try.pinned (OpenSpec.ofChange fnCacheSpec)

/-- ITS FALSE NEIGHBOUR: 'it returns false'. Refute it at one input. -/
def fnCacheWrong : ChangeSpec := { name := "fnCache", fn := fun _ => fun
  | [d1, d2] => { results := [.lit (.bool false)], args := [d1, d2] }
  | _ => none }
def FnCacheWrongFalsely : Prop := fnCacheRow.holds Try.pinned (OpenSpec.ofChange fnCacheWrong)

/- THE SECOND FORM. 'bulk': how many values and letters a reading holds, each counted each time it is reached (what is shared counts as often as it is met; a slice's spare places count too). A statement '..UptoSaid' is the law's where the arguments, and the package variables that the reading takes, are together of bulk at most 1048576: NARROWER than '..Said'. Prove '..Said' where nothing that the law and all that it calls make is longer than what came in: it says more and counts as full. Else prove '..UptoSaid'. A law counts once. -/
mutual
def uptoBulk {H : Type} : DataW H → Nat
  | .lit (.string bytes) => bytes.length + 1
  | .lit _ => 1
  | .nil => 1
  | .ptr d => uptoBulk d + 1
  | .slice elems spare => uptoBulkAll elems + uptoBulkAll spare + 1
  | .agg parts => uptoBulkAll parts + 1
  | .iface _ d => uptoBulk d + 1
  | .map entries => uptoBulkEntries entries + 1
  | .held _ => 1
def uptoBulkAll {H : Type} : List (DataW H) → Nat
  | [] => 0
  | d :: r => uptoBulk d + uptoBulkAll r
def uptoBulkEntries {H : Type} : List (Lit × DataW H) → Nat
  | [] => 0
  | x :: r => uptoBulkEntry x + uptoBulkEntries r
def uptoBulkEntry {H : Type} : Lit × DataW H → Nat
  | (.string bytes, d) => bytes.length + uptoBulk d + 1
  | (_, d) => uptoBulk d + 1
 end
def uptoSmall : (H : Type) → List (DataW H) → Bool := fun _ ds => decide (uptoBulkAll ds ≤ 1048576)
def OpenSpec.upto (s : _root_.Go.ChangeSpec) : _root_.Go.OpenSpec := { _root_.Go.OpenSpec.ofChange s with cond := some uptoSmall }

/-- 'laws.FnLobChunks', WHERE WHAT IT READS IS OF BULK AT MOST 1048576: true; the input reads as it did. -/
def fnLobChunksUptoRow : OpenClaim := { program := "ytagmjnlimiconaa", sum := "94aba8a189d65682d2948e1d1d80c2abaada056f4569ae65f98f71fd774732a1", func := "given.example/pub-anacrusis/laws.FnLobChunks", spec := "fnLobChunks", unfollowed := true, recurses := true, apart := false, narrowed := true }
def FnLobChunksUptoSaid : Prop := fnLobChunksUptoRow.holds Try.pinned (OpenSpec.upto fnLobChunksSpec)

/-- 'laws.FnCache', WHERE WHAT IT READS IS OF BULK AT MOST 1048576: true; the input reads as it did. -/
def fnCacheUptoRow : OpenClaim := { program := "ytagmjnlimiconaa", sum := "94aba8a189d65682d2948e1d1d80c2abaada056f4569ae65f98f71fd774732a1", func := "given.example/pub-anacrusis/laws.FnCache", spec := "fnCache", inPlace := ["(*sync.RWMutex).RLock", "internal/race.Read", "internal/race.Disable", "sync/atomic.AddInt32", "sync.runtime_SemacquireRWMutexR", "internal/race.Enable", "internal/race.Acquire", "(*sync.RWMutex).RUnlock", "internal/race.ReleaseMerge", "(*sync.RWMutex).rUnlockSlow", "sync.fatal", "sync.runtime_Semrelease", "(*sync.RWMutex).Lock", "(*internal/sync.Mutex).Lock", "sync/atomic.CompareAndSwapInt32", "(*internal/sync.Mutex).lockSlow", "internal/sync.runtime_canSpin", "internal/sync.runtime_doSpin", "internal/sync.throw", "internal/sync.runtime_nanotime", "internal/sync.runtime_SemacquireMutex", "sync.runtime_SemacquireRWMutex", "(*sync.RWMutex).Unlock", "internal/race.Release", "(*internal/sync.Mutex).Unlock", "(*internal/sync.Mutex).unlockSlow", "internal/sync.fatal", "internal/sync.runtime_Semrelease"], unfollowed := true, recurses := true, apart := false, narrowed := true }
def FnCacheUptoSaid : Prop := fnCacheUptoRow.holds Try.pinned (OpenSpec.upto fnCacheSpec)

end Rows
end Go.Proofs.Ytagmjnlimiconaa
