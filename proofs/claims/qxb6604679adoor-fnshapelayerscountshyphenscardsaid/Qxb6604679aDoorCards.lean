/-
  DERIVED. GIVEN WITH THE SEED: THE CARDS: each row of Qxb6604679aDoorRows.lean that lists a variable, with what it lists TIED to the program's text (the seventh form; the later family's looks); each row that meets fmt, with fmt's text TOLD by the authors' own Lean function (tested against real Go, not proved from fmt's source: count such statements apart). THE CARD IS WHAT COUNTS. Prove the row's statement (the work); the ties are given (Qxb6604679aDoorTie.lean); close each card by the builder's one call (the guide's Derived/Test/ToyasCard.lean, 'card_holds'). Laid BY PROGRAM, IN A SANDBOX (cutbox-door.mjs). By AI agents, Wed Nov 11 2026. No macro, syntax, notation, axiom, sorry.
-/
import Derived.Test.Qxb6604679aDoorRows
import GoSem.ClaimSeven
namespace Go.Proofs.Qxb6604679aDoor
namespace Rows

/-- THE TIED CARD OF 'zzlaws_internal_model_b1.FnShapeLayersCountsHyphens'. -/
def fnShapeLayersCountsHyphensCard : Claim7 := { stood := { row := fnShapeLayersCountsHyphensRow, standIns := [], harness := (true, "3c3f334d35deeed13efd5cfed7cb36c6a7067c9a5028c24d282991f99a694b35"), looks := false }, kinds := [], alts := [], laidByText := true, laidKinds := [.data, .data, .data], laidTests := true, laidLooks := .later }
def FnShapeLayersCountsHyphensCardSaid : Prop := Claim7.holds Tryd.pinned (.plain (OpenSpec.ofChange fnShapeLayersCountsHyphensSpec)) fnShapeLayersCountsHyphensCard
end Rows
end Go.Proofs.Qxb6604679aDoor
