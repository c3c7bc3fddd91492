/-
  No cell of these rows narrows 'for every input' (looked for: loops, veiled, ifaces, maps, wideKeys, modest, calm, conditions, laid).
  DERIVED. THE GIVEN ROWS OF THIS SEAT. 2 by the template 'for every input the law returns true; each argument reads behind the call as it read before'; 0 by the template 'total and deterministic' (their statements: Qxb6615813aTotals.lean).
  GIVEN WITH THE SEED: the statements are not yours to turn. If you find one false, say at which input.
  Laid BY PROGRAM, IN A SANDBOX (cutbox-rows.mjs): the forced cells as the released guide's own fill.sh prints them over the translation 388a3a67ba9079b1… (all of the seat's roots in one cut). By AI agents, Wed Nov 11 2026. No macro, syntax, notation, axiom, sorry.
-/
import Derived.Test.Qxb6615813aChecked
import GoSem.Claim
import GoSem.ClaimJoined
import GoSem.ClaimMapViews
import Derived.JoinedTies
import Derived.KernelRfl
namespace Go.Proofs.Qxb6615813a
/- THE CELL 'sum', in the pinned program and in every row, IS THE sha256 OF THE DUMP (.gsa) THAT Qxb6615813aProg.lean LOADS. Nothing in Lean hashes anything: it is a label: what it is worth is what the hold of that sum in a sandbox is worth. -/
noncomputable def Try.pinned : Pinned := { name := "qxb6615813a", sum := "388a3a67ba9079b17d09efadca66434ce76c5434faea0574c5738cf8b513a71f", checked := Try.checked }
namespace Rows
def none {H : Type} : Left H := { results := [], args := [] }

/-- 'zzlaws_internal_limiter_b1.FnCeilDivNestsAndIsLeastCover': WHATEVER THE INPUT: true; the input reads as it did. -/
def fnCeilDivNestsAndIsLeastCoverSpec : ChangeSpec := { name := "fnCeilDivNestsAndIsLeastCover", fn := fun _ => fun
  | [d1, d2, d3] => { results := [.lit (.bool true)], args := [d1, d2, d3] }
  | _ => none }
def fnCeilDivNestsAndIsLeastCoverRow : OpenClaim := { program := "qxb6615813a", sum := "388a3a67ba9079b17d09efadca66434ce76c5434faea0574c5738cf8b513a71f", func := "example.com/epistream/epistream/zzlaws_internal_limiter_b1.FnCeilDivNestsAndIsLeastCover", spec := "fnCeilDivNestsAndIsLeastCover", apart := false }
def FnCeilDivNestsAndIsLeastCoverSaid : Prop := fnCeilDivNestsAndIsLeastCoverRow.holds Try.pinned (OpenSpec.ofChange fnCeilDivNestsAndIsLeastCoverSpec)

/-- ITS FALSE NEIGHBOUR: 'it returns false'. Refute it at one input. -/
def fnCeilDivNestsAndIsLeastCoverWrong : ChangeSpec := { name := "fnCeilDivNestsAndIsLeastCover", fn := fun _ => fun
  | [d1, d2, d3] => { results := [.lit (.bool false)], args := [d1, d2, d3] }
  | _ => none }
def FnCeilDivNestsAndIsLeastCoverWrongFalsely : Prop := fnCeilDivNestsAndIsLeastCoverRow.holds Try.pinned (OpenSpec.ofChange fnCeilDivNestsAndIsLeastCoverWrong)

/-- 'zzlaws_internal_limiter_b1.FnCeilDivShiftsByWholeMultiples': WHATEVER THE INPUT: true; the input reads as it did. -/
def fnCeilDivShiftsByWholeMultiplesSpec : ChangeSpec := { name := "fnCeilDivShiftsByWholeMultiples", fn := fun _ => fun
  | [d1, d2, d3] => { results := [.lit (.bool true)], args := [d1, d2, d3] }
  | _ => none }
def fnCeilDivShiftsByWholeMultiplesRow : OpenClaim := { program := "qxb6615813a", sum := "388a3a67ba9079b17d09efadca66434ce76c5434faea0574c5738cf8b513a71f", func := "example.com/epistream/epistream/zzlaws_internal_limiter_b1.FnCeilDivShiftsByWholeMultiples", spec := "fnCeilDivShiftsByWholeMultiples", apart := false }
def FnCeilDivShiftsByWholeMultiplesSaid : Prop := fnCeilDivShiftsByWholeMultiplesRow.holds Try.pinned (OpenSpec.ofChange fnCeilDivShiftsByWholeMultiplesSpec)

/-- ITS FALSE NEIGHBOUR: 'it returns false'. Refute it at one input. -/
def fnCeilDivShiftsByWholeMultiplesWrong : ChangeSpec := { name := "fnCeilDivShiftsByWholeMultiples", fn := fun _ => fun
  | [d1, d2, d3] => { results := [.lit (.bool false)], args := [d1, d2, d3] }
  | _ => none }
def FnCeilDivShiftsByWholeMultiplesWrongFalsely : Prop := fnCeilDivShiftsByWholeMultiplesRow.holds Try.pinned (OpenSpec.ofChange fnCeilDivShiftsByWholeMultiplesWrong)

end Rows
end Go.Proofs.Qxb6615813a
