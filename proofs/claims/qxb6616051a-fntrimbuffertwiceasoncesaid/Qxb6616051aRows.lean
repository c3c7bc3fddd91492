/-
  No cell of these rows narrows 'for every input' (looked for: loops, veiled, ifaces, maps, wideKeys, modest, calm, conditions, laid).
  DERIVED. THE GIVEN ROWS OF THIS SEAT. 1 by the template 'for every input the law returns true; each argument reads behind the call as it read before'; 0 by the template 'total and deterministic' (their statements: Qxb6616051aTotals.lean).
  GIVEN WITH THE SEED: the statements are not yours to turn. If you find one false, say at which input.
  Laid BY PROGRAM, IN A SANDBOX (cutbox-rows.mjs): the forced cells as the released guide's own fill.sh prints them over the translation cb133ed5a42b22fa… (all of the seat's roots in one cut). By AI agents, Wed Nov 11 2026. No macro, syntax, notation, axiom, sorry.
-/
import Derived.Test.Qxb6616051aChecked
import GoSem.Claim
import GoSem.ClaimJoined
import GoSem.ClaimMapViews
import Derived.JoinedTies
import Derived.KernelRfl
namespace Go.Proofs.Qxb6616051a
/- THE CELL 'sum', in the pinned program and in every row, IS THE sha256 OF THE DUMP (.gsa) THAT Qxb6616051aProg.lean LOADS. Nothing in Lean hashes anything: it is a label: what it is worth is what the hold of that sum in a sandbox is worth. -/
noncomputable def Try.pinned : Pinned := { name := "qxb6616051a", sum := "cb133ed5a42b22fa0ba54f38323404c34bfb01a50e2568a81f97bd641305e892", checked := Try.checked }
namespace Rows
def none {H : Type} : Left H := { results := [], args := [] }

/-- 'zzlaws_pkg_stream_b1.FnTrimBufferTwiceAsOnce': WHATEVER THE INPUT: true; the input reads as it did. -/
def fnTrimBufferTwiceAsOnceSpec : ChangeSpec := { name := "fnTrimBufferTwiceAsOnce", fn := fun _ => fun
  | [d1, d2, d3, d4, d5] => { results := [.lit (.bool true)], args := [d1, d2, d3, d4, d5] }
  | _ => none }
def fnTrimBufferTwiceAsOnceRow : OpenClaim := { program := "qxb6616051a", sum := "cb133ed5a42b22fa0ba54f38323404c34bfb01a50e2568a81f97bd641305e892", func := "example.com/befristung/befristung/zzlaws_pkg_stream_b1.FnTrimBufferTwiceAsOnce", spec := "fnTrimBufferTwiceAsOnce", apart := false }
def FnTrimBufferTwiceAsOnceSaid : Prop := fnTrimBufferTwiceAsOnceRow.holds Try.pinned (OpenSpec.ofChange fnTrimBufferTwiceAsOnceSpec)

/-- ITS FALSE NEIGHBOUR: 'it returns false'. Refute it at one input. -/
def fnTrimBufferTwiceAsOnceWrong : ChangeSpec := { name := "fnTrimBufferTwiceAsOnce", fn := fun _ => fun
  | [d1, d2, d3, d4, d5] => { results := [.lit (.bool false)], args := [d1, d2, d3, d4, d5] }
  | _ => none }
def FnTrimBufferTwiceAsOnceWrongFalsely : Prop := fnTrimBufferTwiceAsOnceRow.holds Try.pinned (OpenSpec.ofChange fnTrimBufferTwiceAsOnceWrong)

end Rows
end Go.Proofs.Qxb6616051a
