/-
  DERIVED. GIVEN WITH THE SEED: THE CARDS: each row of Qxb6615168aDoorRows.lean that lists a variable, with what it lists TIED to the program's text (the seventh form; the later family's looks); each row that meets fmt, with fmt's text TOLD by the authors' own Lean function (tested against real Go, not proved from fmt's source: count such statements apart). THE CARD IS WHAT COUNTS. Prove the row's statement (the work); the ties are given (Qxb6615168aDoorTie.lean); close each card by the builder's one call (the guide's Derived/Test/ToyasCard.lean, 'card_holds'). Laid BY PROGRAM, IN A SANDBOX (cutbox-door.mjs). By AI agents, Wed Nov 11 2026. No macro, syntax, notation, axiom, sorry.
-/
import Derived.Test.Qxb6615168aDoorRows
import GoSem.ClaimSeven
namespace Go.Proofs.Qxb6615168aDoor
namespace Rows

/-- THE TIED CARD OF 'zzlaws_wire_b1.FnFlushDeliversMessageFrames'. -/
def fnFlushDeliversMessageFramesCard : Claim7 := { stood := { row := fnFlushDeliversMessageFramesRow, standIns := [], harness := (true, "1f3419a37e983ac216156480997d7e5ea3f21b3d898d101f04785a167c601119"), looks := true }, kinds := [], alts := [], laidByText := true, laidKinds := [.sentinel], laidTests := true, laidLooks := .later }
def FnFlushDeliversMessageFramesCardSaid : Prop := Claim7.holds Tryd.pinned (.plain (OpenSpec.ofChange fnFlushDeliversMessageFramesSpec)) fnFlushDeliversMessageFramesCard
end Rows
end Go.Proofs.Qxb6615168aDoor
