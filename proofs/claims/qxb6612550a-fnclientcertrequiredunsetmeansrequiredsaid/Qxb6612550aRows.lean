/-
  No cell of these rows narrows 'for every input' (looked for: loops, veiled, ifaces, maps, wideKeys, modest, calm, conditions, laid).
  DERIVED. THE GIVEN ROWS OF THIS SEAT. 1 by the template 'for every input the law returns true; each argument reads behind the call as it read before'; 0 by the template 'total and deterministic' (their statements: Qxb6612550aTotals.lean).
  GIVEN WITH THE SEED: the statements are not yours to turn. If you find one false, say at which input.
  Laid BY PROGRAM, IN A SANDBOX (cutbox-rows.mjs): the forced cells as the released guide's own fill.sh prints them over the translation ad1d777240870099… (all of the seat's roots in one cut). By AI agents, Wed Nov 11 2026. No macro, syntax, notation, axiom, sorry.
-/
import Derived.Test.Qxb6612550aChecked
import GoSem.Claim
import GoSem.ClaimJoined
import GoSem.ClaimMapViews
import Derived.JoinedTies
import Derived.KernelRfl
namespace Go.Proofs.Qxb6612550a
/- THE CELL 'sum', in the pinned program and in every row, IS THE sha256 OF THE DUMP (.gsa) THAT Qxb6612550aProg.lean LOADS. Nothing in Lean hashes anything: it is a label: what it is worth is what the hold of that sum in a sandbox is worth. -/
noncomputable def Try.pinned : Pinned := { name := "qxb6612550a", sum := "ad1d77724087009927edd78f7bad678d6f385ff5dec3ae126a481b6aef3389e4", checked := Try.checked }
namespace Rows
def none {H : Type} : Left H := { results := [], args := [] }

/-- 'zzlaws_pkg_config_b1.FnClientCertRequiredUnsetMeansRequired': WHATEVER THE INPUT: true; the input reads as it did. -/
def fnClientCertRequiredUnsetMeansRequiredSpec : ChangeSpec := { name := "fnClientCertRequiredUnsetMeansRequired", fn := fun _ => fun
  | [d1, d2, d3, d4, d5, d6] => { results := [.lit (.bool true)], args := [d1, d2, d3, d4, d5, d6] }
  | _ => none }
def fnClientCertRequiredUnsetMeansRequiredRow : OpenClaim := { program := "qxb6612550a", sum := "ad1d77724087009927edd78f7bad678d6f385ff5dec3ae126a481b6aef3389e4", func := "example.com/workmesh/workmesh/zzlaws_pkg_config_b1.FnClientCertRequiredUnsetMeansRequired", spec := "fnClientCertRequiredUnsetMeansRequired", apart := false }
def FnClientCertRequiredUnsetMeansRequiredSaid : Prop := fnClientCertRequiredUnsetMeansRequiredRow.holds Try.pinned (OpenSpec.ofChange fnClientCertRequiredUnsetMeansRequiredSpec)

/-- ITS FALSE NEIGHBOUR: 'it returns false'. Refute it at one input. -/
def fnClientCertRequiredUnsetMeansRequiredWrong : ChangeSpec := { name := "fnClientCertRequiredUnsetMeansRequired", fn := fun _ => fun
  | [d1, d2, d3, d4, d5, d6] => { results := [.lit (.bool false)], args := [d1, d2, d3, d4, d5, d6] }
  | _ => none }
def FnClientCertRequiredUnsetMeansRequiredWrongFalsely : Prop := fnClientCertRequiredUnsetMeansRequiredRow.holds Try.pinned (OpenSpec.ofChange fnClientCertRequiredUnsetMeansRequiredWrong)

end Rows
end Go.Proofs.Qxb6612550a
