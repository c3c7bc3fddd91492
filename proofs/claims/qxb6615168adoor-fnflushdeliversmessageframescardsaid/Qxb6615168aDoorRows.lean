/-
  NARROWER THAN 'FOR EVERY INPUT', by the rows' own cells (each row's printed sentence says how): FnFlushDeliversMessageFrames: laid.
  DERIVED. THE GIVEN ROWS OF THIS SEAT. 1 by the template 'for every input the law returns true; each argument reads behind the call as it read before'; 0 by the template 'total and deterministic' (their statements: Qxb6615168aDoorTotals.lean).
  GIVEN WITH THE SEED: the statements are not yours to turn. If you find one false, say at which input.
  Laid BY PROGRAM, IN A SANDBOX (cutbox-rows.mjs): the forced cells as the released guide's own fill.sh prints them over the translation e05e2d93be14766c… (all of the seat's roots in one cut). By AI agents, Wed Nov 11 2026. No macro, syntax, notation, axiom, sorry.
-/
import Derived.Test.Qxb6615168aDoorChecked
import GoSem.Claim
import GoSem.ClaimJoined
import GoSem.ClaimMapViews
import Derived.JoinedTies
import Derived.KernelRfl
namespace Go.Proofs.Qxb6615168aDoor
/- THE CELL 'sum', in the pinned program and in every row, IS THE sha256 OF THE DUMP (.gsa) THAT Qxb6615168aDoorProg.lean LOADS. Nothing in Lean hashes anything: it is a label: what it is worth is what the hold of that sum in a sandbox is worth. -/
noncomputable def Tryd.pinned : Pinned := { name := "qxb6615168adoor", sum := "e05e2d93be14766c21e154ad1ca64a2fa2fae274af6a46e44ee97d1ed3e98b7c", checked := Tryd.checked }
namespace Rows
def none {H : Type} : Left H := { results := [], args := [] }

/- WHAT THE LISTED PACKAGE-LEVEL VARIABLES READ AS WHEN THE CALL BEGINS. Each datum BY PROGRAM (the guide's laid-datum.mjs) off the statement by which the dump's own 'gosem.cut.vars' lays the variable. In a bare row this is a premise. The card (Qxb6615168aDoorCards.lean) ties it to the program's text. -/
def laid_io_ErrShortWrite {H : Type} : DataW H := .iface "*errors.errorString" (.ptr (.agg [.lit (.string [115, 104, 111, 114, 116, 32, 119, 114, 105, 116, 101])]))

/-- 'zzlaws_wire_b1.FnFlushDeliversMessageFrames': WHATEVER THE INPUT: true; the input reads as it did. -/
def fnFlushDeliversMessageFramesSpec : ChangeSpec := { name := "fnFlushDeliversMessageFrames", fn := fun _ => fun
  | [d1, d2] => { results := [.lit (.bool true)], args := [d1, d2] }
  | _ => none }
def fnFlushDeliversMessageFramesRow : OpenClaim := { program := "qxb6615168adoor", sum := "e05e2d93be14766c21e154ad1ca64a2fa2fae274af6a46e44ee97d1ed3e98b7c", func := "example.com/hashmend/hashmend/zzlaws_wire_b1.FnFlushDeliversMessageFrames", spec := "fnFlushDeliversMessageFrames", inPlace := ["(*internal/sync.Mutex).Lock", "internal/race.Disable", "sync/atomic.CompareAndSwapInt32", "internal/race.Enable", "internal/race.Acquire", "(*internal/sync.Mutex).lockSlow", "internal/sync.runtime_canSpin", "internal/sync.runtime_doSpin", "internal/sync.throw", "internal/sync.runtime_nanotime", "internal/sync.runtime_SemacquireMutex", "sync/atomic.AddInt32", "(*internal/sync.Mutex).Unlock", "internal/race.ReleaseMerge", "(*internal/sync.Mutex).unlockSlow", "internal/sync.fatal", "internal/sync.runtime_Semrelease"], unfollowed := true, recurses := true, named := ["encoding/binary.BigEndian", "io.ErrShortWrite"], apart := false, laid := [("io.ErrShortWrite", laid_io_ErrShortWrite)] }
def FnFlushDeliversMessageFramesSaid : Prop := fnFlushDeliversMessageFramesRow.holds Tryd.pinned (OpenSpec.ofChange fnFlushDeliversMessageFramesSpec)

/-- ITS FALSE NEIGHBOUR: 'it returns false'. Refute it at one input. -/
def fnFlushDeliversMessageFramesWrong : ChangeSpec := { name := "fnFlushDeliversMessageFrames", fn := fun _ => fun
  | [d1, d2] => { results := [.lit (.bool false)], args := [d1, d2] }
  | _ => none }
def FnFlushDeliversMessageFramesWrongFalsely : Prop := fnFlushDeliversMessageFramesRow.holds Tryd.pinned (OpenSpec.ofChange fnFlushDeliversMessageFramesWrong)

end Rows
end Go.Proofs.Qxb6615168aDoor
