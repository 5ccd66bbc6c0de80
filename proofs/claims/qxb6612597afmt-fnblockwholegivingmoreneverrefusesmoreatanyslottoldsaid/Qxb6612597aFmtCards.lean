/-
  DERIVED. GIVEN WITH THE SEED: THE CARDS: each row of Qxb6612597aFmtRows.lean that lists a variable, with what it lists TIED to the program's text (the seventh form; the later family's looks); each row that meets fmt, with fmt's text TOLD by the authors' own Lean function (tested against real Go, not proved from fmt's source: count such statements apart). THE CARD IS WHAT COUNTS. Prove the row's statement (the work); the ties are given (Qxb6612597aFmtTie.lean); close each card by the builder's one call (the guide's Derived/Test/ToyasCard.lean, 'card_holds'). Laid BY PROGRAM, IN A SANDBOX (cutbox-door.mjs). By AI agents, Wed Nov 11 2026. No macro, syntax, notation, axiom, sorry.
-/
import Derived.Test.Qxb6612597aFmtRows
import GoSem.ClaimSeven
namespace Go.Proofs.Qxb6612597aFmt
namespace Rows

/-- THE TOLD CARD OF 'zzlaws_beacon_b1.FnBlockWholeRefusedAtUnionIffAtAPart'. -/
def fnBlockWholeRefusedAtUnionIffAtAPartCard : Claim7 := { stood := { row := fnBlockWholeRefusedAtUnionIffAtAPartRow, standIns := [], harness := (true, "8ecc0c1e215b164a1204dfdcd6998b5af2dcaa42aad4440958710035d9561ccb"), looks := false }, told := true, goes := false }
def FnBlockWholeRefusedAtUnionIffAtAPartToldSaid : Prop := Claim7.holds Tryf.pinned (.plain (OpenSpec.ofChange fnBlockWholeRefusedAtUnionIffAtAPartSpec)) fnBlockWholeRefusedAtUnionIffAtAPartCard
/-- ITS FALSE NEIGHBOUR. Refute it at one input. -/
def FnBlockWholeRefusedAtUnionIffAtAPartToldWrongFalsely : Prop := Claim7.holds Tryf.pinned (.plain (OpenSpec.ofChange fnBlockWholeRefusedAtUnionIffAtAPartWrong)) fnBlockWholeRefusedAtUnionIffAtAPartCard

/-- THE TOLD CARD OF 'zzlaws_beacon_b1.FnBlockWholeGivingMoreNeverRefusesMoreAtAnySlot'. -/
def fnBlockWholeGivingMoreNeverRefusesMoreAtAnySlotCard : Claim7 := { stood := { row := fnBlockWholeGivingMoreNeverRefusesMoreAtAnySlotRow, standIns := [], harness := (true, "8ecc0c1e215b164a1204dfdcd6998b5af2dcaa42aad4440958710035d9561ccb"), looks := false }, told := true, goes := false }
def FnBlockWholeGivingMoreNeverRefusesMoreAtAnySlotToldSaid : Prop := Claim7.holds Tryf.pinned (.plain (OpenSpec.ofChange fnBlockWholeGivingMoreNeverRefusesMoreAtAnySlotSpec)) fnBlockWholeGivingMoreNeverRefusesMoreAtAnySlotCard
/-- ITS FALSE NEIGHBOUR. Refute it at one input. -/
def FnBlockWholeGivingMoreNeverRefusesMoreAtAnySlotToldWrongFalsely : Prop := Claim7.holds Tryf.pinned (.plain (OpenSpec.ofChange fnBlockWholeGivingMoreNeverRefusesMoreAtAnySlotWrong)) fnBlockWholeGivingMoreNeverRefusesMoreAtAnySlotCard
end Rows
end Go.Proofs.Qxb6612597aFmt
