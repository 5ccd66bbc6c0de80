/-
  No cell of these rows narrows 'for every input' (looked for: loops, veiled, ifaces, maps, wideKeys, modest, calm, conditions, laid).
  DERIVED. THE GIVEN ROWS OF THIS SEAT. 2 by the template 'for every input the law returns true; each argument reads behind the call as it read before'; 0 by the template 'total and deterministic' (their statements: Qxb6612597aFmtTotals.lean).
  GIVEN WITH THE SEED: the statements are not yours to turn. If you find one false, say at which input.
  Laid BY PROGRAM, IN A SANDBOX (cutbox-rows.mjs): the forced cells as the released guide's own fill.sh prints them over the translation ebc1f42263ba3681… (all of the seat's roots in one cut). By AI agents, Wed Nov 11 2026. No macro, syntax, notation, axiom, sorry.
-/
import Derived.Test.Qxb6612597aFmtChecked
import GoSem.Claim
import GoSem.ClaimJoined
import GoSem.ClaimMapViews
import Derived.JoinedTies
import Derived.KernelRfl
namespace Go.Proofs.Qxb6612597aFmt
/- THE CELL 'sum', in the pinned program and in every row, IS THE sha256 OF THE DUMP (.gsa) THAT Qxb6612597aFmtProg.lean LOADS. Nothing in Lean hashes anything: it is a label: what it is worth is what the hold of that sum in a sandbox is worth. -/
noncomputable def Tryf.pinned : Pinned := { name := "qxb6612597afmt", sum := "ebc1f42263ba368185050a59cf0e462cd8296c680dc27daea8b1411185b15dd3", checked := Tryf.checked }
namespace Rows
def none {H : Type} : Left H := { results := [], args := [] }

/-- 'zzlaws_beacon_b1.FnBlockWholeRefusedAtUnionIffAtAPart': WHATEVER THE INPUT: true; the input reads as it did. -/
def fnBlockWholeRefusedAtUnionIffAtAPartSpec : ChangeSpec := { name := "fnBlockWholeRefusedAtUnionIffAtAPart", fn := fun _ => fun
  | [d1, d2, d3, d4, d5, d6, d7, d8, d9, d10] => { results := [.lit (.bool true)], args := [d1, d2, d3, d4, d5, d6, d7, d8, d9, d10] }
  | _ => none }
def fnBlockWholeRefusedAtUnionIffAtAPartRow : OpenClaim := { program := "qxb6612597afmt", sum := "ebc1f42263ba368185050a59cf0e462cd8296c680dc27daea8b1411185b15dd3", func := "example.com/stakemark/stakemark/zzlaws_beacon_b1.FnBlockWholeRefusedAtUnionIffAtAPart", spec := "fnBlockWholeRefusedAtUnionIffAtAPart", stops := ["fmt.errorf"], inPlace := ["fmt.errorf"], apart := false }
/-- NO THEOREM (fmt's text is open here; it may be false): for the released tool's asking of the row's closed facts alone. THE STATEMENT IS 'FnBlockWholeRefusedAtUnionIffAtAPartToldSaid' (Qxb6612597aFmtCards.lean). -/
def FnBlockWholeRefusedAtUnionIffAtAPartFormAsk : Prop := fnBlockWholeRefusedAtUnionIffAtAPartRow.holds Tryf.pinned (OpenSpec.ofChange fnBlockWholeRefusedAtUnionIffAtAPartSpec)

/-- ITS FALSE NEIGHBOUR: 'it returns false'. Refute it at one input. -/
def fnBlockWholeRefusedAtUnionIffAtAPartWrong : ChangeSpec := { name := "fnBlockWholeRefusedAtUnionIffAtAPart", fn := fun _ => fun
  | [d1, d2, d3, d4, d5, d6, d7, d8, d9, d10] => { results := [.lit (.bool false)], args := [d1, d2, d3, d4, d5, d6, d7, d8, d9, d10] }
  | _ => none }
def FnBlockWholeRefusedAtUnionIffAtAPartWrongFormAsk : Prop := fnBlockWholeRefusedAtUnionIffAtAPartRow.holds Tryf.pinned (OpenSpec.ofChange fnBlockWholeRefusedAtUnionIffAtAPartWrong)

/-- 'zzlaws_beacon_b1.FnBlockWholeGivingMoreNeverRefusesMoreAtAnySlot': WHATEVER THE INPUT: true; the input reads as it did. -/
def fnBlockWholeGivingMoreNeverRefusesMoreAtAnySlotSpec : ChangeSpec := { name := "fnBlockWholeGivingMoreNeverRefusesMoreAtAnySlot", fn := fun _ => fun
  | [d1, d2, d3, d4, d5, d6, d7, d8, d9, d10, d11] => { results := [.lit (.bool true)], args := [d1, d2, d3, d4, d5, d6, d7, d8, d9, d10, d11] }
  | _ => none }
def fnBlockWholeGivingMoreNeverRefusesMoreAtAnySlotRow : OpenClaim := { program := "qxb6612597afmt", sum := "ebc1f42263ba368185050a59cf0e462cd8296c680dc27daea8b1411185b15dd3", func := "example.com/stakemark/stakemark/zzlaws_beacon_b1.FnBlockWholeGivingMoreNeverRefusesMoreAtAnySlot", spec := "fnBlockWholeGivingMoreNeverRefusesMoreAtAnySlot", stops := ["fmt.errorf"], inPlace := ["fmt.errorf"], apart := false }
/-- NO THEOREM (fmt's text is open here; it may be false): for the released tool's asking of the row's closed facts alone. THE STATEMENT IS 'FnBlockWholeGivingMoreNeverRefusesMoreAtAnySlotToldSaid' (Qxb6612597aFmtCards.lean). -/
def FnBlockWholeGivingMoreNeverRefusesMoreAtAnySlotFormAsk : Prop := fnBlockWholeGivingMoreNeverRefusesMoreAtAnySlotRow.holds Tryf.pinned (OpenSpec.ofChange fnBlockWholeGivingMoreNeverRefusesMoreAtAnySlotSpec)

/-- ITS FALSE NEIGHBOUR: 'it returns false'. Refute it at one input. -/
def fnBlockWholeGivingMoreNeverRefusesMoreAtAnySlotWrong : ChangeSpec := { name := "fnBlockWholeGivingMoreNeverRefusesMoreAtAnySlot", fn := fun _ => fun
  | [d1, d2, d3, d4, d5, d6, d7, d8, d9, d10, d11] => { results := [.lit (.bool false)], args := [d1, d2, d3, d4, d5, d6, d7, d8, d9, d10, d11] }
  | _ => none }
def FnBlockWholeGivingMoreNeverRefusesMoreAtAnySlotWrongFormAsk : Prop := fnBlockWholeGivingMoreNeverRefusesMoreAtAnySlotRow.holds Tryf.pinned (OpenSpec.ofChange fnBlockWholeGivingMoreNeverRefusesMoreAtAnySlotWrong)

end Rows
end Go.Proofs.Qxb6612597aFmt
