/-
  No cell of these rows narrows 'for every input' (looked for: loops, veiled, ifaces, maps, wideKeys, modest, calm, conditions, laid).
  DERIVED. THE GIVEN ROWS OF THIS SEAT. 1 by the template 'for every input the law returns true; each argument reads behind the call as it read before'; 0 by the template 'total and deterministic' (their statements: Qxb6615655aTotals.lean).
  GIVEN WITH THE SEED: the statements are not yours to turn. If you find one false, say at which input.
  Laid BY PROGRAM, IN A SANDBOX (cutbox-rows.mjs): the forced cells as the released guide's own fill.sh prints them over the translation 4f59f70d4ba9df79… (all of the seat's roots in one cut). By AI agents, Wed Nov 11 2026. No macro, syntax, notation, axiom, sorry.
-/
import Derived.Test.Qxb6615655aChecked
import GoSem.Claim
import GoSem.ClaimJoined
import GoSem.ClaimMapViews
import Derived.JoinedTies
import Derived.KernelRfl
namespace Go.Proofs.Qxb6615655a
/- THE CELL 'sum', in the pinned program and in every row, IS THE sha256 OF THE DUMP (.gsa) THAT Qxb6615655aProg.lean LOADS. Nothing in Lean hashes anything: it is a label: what it is worth is what the hold of that sum in a sandbox is worth. -/
noncomputable def Try.pinned : Pinned := { name := "qxb6615655a", sum := "4f59f70d4ba9df79dddb1615e52e83e0480793658ae30a42d664464c2e58ee10", checked := Try.checked }
namespace Rows
def none {H : Type} : Left H := { results := [], args := [] }

/-- 'zzlaws_pkg_epp_b1.FnOneTellsParticlesApart': WHATEVER THE INPUT: true; the input reads as it did. -/
def fnOneTellsParticlesApartSpec : ChangeSpec := { name := "fnOneTellsParticlesApart", fn := fun _ => fun
  | [d1, d2, d3, d4, d5, d6] => { results := [.lit (.bool true)], args := [d1, d2, d3, d4, d5, d6] }
  | _ => none }
def fnOneTellsParticlesApartRow : OpenClaim := { program := "qxb6615655a", sum := "4f59f70d4ba9df79dddb1615e52e83e0480793658ae30a42d664464c2e58ee10", func := "example.com/dwell/dwell/zzlaws_pkg_epp_b1.FnOneTellsParticlesApart", spec := "fnOneTellsParticlesApart", apart := false }
def FnOneTellsParticlesApartSaid : Prop := fnOneTellsParticlesApartRow.holds Try.pinned (OpenSpec.ofChange fnOneTellsParticlesApartSpec)

/-- ITS FALSE NEIGHBOUR: 'it returns false'. Refute it at one input. -/
def fnOneTellsParticlesApartWrong : ChangeSpec := { name := "fnOneTellsParticlesApart", fn := fun _ => fun
  | [d1, d2, d3, d4, d5, d6] => { results := [.lit (.bool false)], args := [d1, d2, d3, d4, d5, d6] }
  | _ => none }
def FnOneTellsParticlesApartWrongFalsely : Prop := fnOneTellsParticlesApartRow.holds Try.pinned (OpenSpec.ofChange fnOneTellsParticlesApartWrong)

end Rows
end Go.Proofs.Qxb6615655a
