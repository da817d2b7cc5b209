/-
  No cell of these rows narrows 'for every input' (looked for: loops, veiled, ifaces, maps, wideKeys, modest, calm, conditions, laid).
  DERIVED. THE GIVEN ROWS OF THIS SEAT. 3 by the template 'for every input the law returns true; each argument reads behind the call as it read before'; 0 by the template 'total and deterministic' (their statements: Qxb6603089aTotals.lean).
  GIVEN WITH THE SEED: the statements are not yours to turn. If you find one false, say at which input.
  Laid BY PROGRAM, IN A SANDBOX (cutbox-rows.mjs): the forced cells as the released guide's own fill.sh prints them over the translation 8ad7169dfe4a4dea… (all of the seat's roots in one cut). By AI agents, Wed Nov 11 2026. No macro, syntax, notation, axiom, sorry.
-/
import Derived.Test.Qxb6603089aChecked
import GoSem.Claim
import GoSem.ClaimJoined
import GoSem.ClaimMapViews
import Derived.JoinedTies
import Derived.KernelRfl
namespace Go.Proofs.Qxb6603089a
/- THE CELL 'sum', in the pinned program and in every row, IS THE sha256 OF THE DUMP (.gsa) THAT Qxb6603089aProg.lean LOADS. Nothing in Lean hashes anything: it is a label: what it is worth is what the hold of that sum in a sandbox is worth. -/
noncomputable def Try.pinned : Pinned := { name := "qxb6603089a", sum := "8ad7169dfe4a4dea8fb1136c16f17872e9f462e9f66374691d74046b2da0642b", checked := Try.checked }
namespace Rows
def none {H : Type} : Left H := { results := [], args := [] }

/-- 'zzlaws_root_b1.FnCompareClosedForm': WHATEVER THE INPUT: true; the input reads as it did. -/
def fnCompareClosedFormSpec : ChangeSpec := { name := "fnCompareClosedForm", fn := fun _ => fun
  | [d1, d2] => { results := [.lit (.bool true)], args := [d1, d2] }
  | _ => none }
def fnCompareClosedFormRow : OpenClaim := { program := "qxb6603089a", sum := "8ad7169dfe4a4dea8fb1136c16f17872e9f462e9f66374691d74046b2da0642b", func := "example.com/anchorline/anchorline/zzlaws_root_b1.FnCompareClosedForm", spec := "fnCompareClosedForm", apart := false }
def FnCompareClosedFormSaid : Prop := fnCompareClosedFormRow.holds Try.pinned (OpenSpec.ofChange fnCompareClosedFormSpec)

/-- ITS FALSE NEIGHBOUR: 'it returns false'. Refute it at one input. -/
def fnCompareClosedFormWrong : ChangeSpec := { name := "fnCompareClosedForm", fn := fun _ => fun
  | [d1, d2] => { results := [.lit (.bool false)], args := [d1, d2] }
  | _ => none }
def FnCompareClosedFormWrongFalsely : Prop := fnCompareClosedFormRow.holds Try.pinned (OpenSpec.ofChange fnCompareClosedFormWrong)

/-- 'zzlaws_root_b1.FnCompareAntisymmetric': WHATEVER THE INPUT: true; the input reads as it did. -/
def fnCompareAntisymmetricSpec : ChangeSpec := { name := "fnCompareAntisymmetric", fn := fun _ => fun
  | [d1, d2] => { results := [.lit (.bool true)], args := [d1, d2] }
  | _ => none }
def fnCompareAntisymmetricRow : OpenClaim := { program := "qxb6603089a", sum := "8ad7169dfe4a4dea8fb1136c16f17872e9f462e9f66374691d74046b2da0642b", func := "example.com/anchorline/anchorline/zzlaws_root_b1.FnCompareAntisymmetric", spec := "fnCompareAntisymmetric", apart := false }
def FnCompareAntisymmetricSaid : Prop := fnCompareAntisymmetricRow.holds Try.pinned (OpenSpec.ofChange fnCompareAntisymmetricSpec)

/-- ITS FALSE NEIGHBOUR: 'it returns false'. Refute it at one input. -/
def fnCompareAntisymmetricWrong : ChangeSpec := { name := "fnCompareAntisymmetric", fn := fun _ => fun
  | [d1, d2] => { results := [.lit (.bool false)], args := [d1, d2] }
  | _ => none }
def FnCompareAntisymmetricWrongFalsely : Prop := fnCompareAntisymmetricRow.holds Try.pinned (OpenSpec.ofChange fnCompareAntisymmetricWrong)

/-- 'zzlaws_root_b1.FnCompareTransitive': WHATEVER THE INPUT: true; the input reads as it did. -/
def fnCompareTransitiveSpec : ChangeSpec := { name := "fnCompareTransitive", fn := fun _ => fun
  | [d1, d2, d3] => { results := [.lit (.bool true)], args := [d1, d2, d3] }
  | _ => none }
def fnCompareTransitiveRow : OpenClaim := { program := "qxb6603089a", sum := "8ad7169dfe4a4dea8fb1136c16f17872e9f462e9f66374691d74046b2da0642b", func := "example.com/anchorline/anchorline/zzlaws_root_b1.FnCompareTransitive", spec := "fnCompareTransitive", apart := false }
def FnCompareTransitiveSaid : Prop := fnCompareTransitiveRow.holds Try.pinned (OpenSpec.ofChange fnCompareTransitiveSpec)

/-- ITS FALSE NEIGHBOUR: 'it returns false'. Refute it at one input. -/
def fnCompareTransitiveWrong : ChangeSpec := { name := "fnCompareTransitive", fn := fun _ => fun
  | [d1, d2, d3] => { results := [.lit (.bool false)], args := [d1, d2, d3] }
  | _ => none }
def FnCompareTransitiveWrongFalsely : Prop := fnCompareTransitiveRow.holds Try.pinned (OpenSpec.ofChange fnCompareTransitiveWrong)

end Rows
end Go.Proofs.Qxb6603089a
