/-
  No cell of these rows narrows 'for every input' (looked for: loops, veiled, ifaces, maps, wideKeys, modest, calm, conditions, laid).
  DERIVED. THE GIVEN ROWS OF THIS SEAT. 6 by the template 'for every input the law returns true; each argument reads behind the call as it read before'; 0 by the template 'total and deterministic' (their statements: Qxb6602653aTotals.lean).
  GIVEN WITH THE SEED: the statements are not yours to turn. If you find one false, say at which input.
  Laid BY PROGRAM, IN A SANDBOX (cutbox-rows.mjs): the forced cells as the released guide's own fill.sh prints them over the translation 1b16c2be32e3eac1… (all of the seat's roots in one cut). By AI agents, Wed Nov 11 2026. No macro, syntax, notation, axiom, sorry.
-/
import Derived.Test.Qxb6602653aChecked
import GoSem.Claim
import GoSem.ClaimJoined
import GoSem.ClaimMapViews
import Derived.JoinedTies
import Derived.KernelRfl
namespace Go.Proofs.Qxb6602653a
/- THE CELL 'sum', in the pinned program and in every row, IS THE sha256 OF THE DUMP (.gsa) THAT Qxb6602653aProg.lean LOADS. Nothing in Lean hashes anything: it is a label: what it is worth is what the hold of that sum in a sandbox is worth. -/
noncomputable def Try.pinned : Pinned := { name := "qxb6602653a", sum := "1b16c2be32e3eac1741286dbfb595f4e3820bd86ad7ffbb8efe26931a90ed92d", checked := Try.checked }
namespace Rows
def none {H : Type} : Left H := { results := [], args := [] }

/-- 'zzlaws_internal_store_b1.FnProbeGivesNearestStopInProbeOrder': WHATEVER THE INPUT: true; the input reads as it did. -/
def fnProbeGivesNearestStopInProbeOrderSpec : ChangeSpec := { name := "fnProbeGivesNearestStopInProbeOrder", fn := fun _ => fun
  | [d1, d2, d3, d4, d5] => { results := [.lit (.bool true)], args := [d1, d2, d3, d4, d5] }
  | _ => none }
def fnProbeGivesNearestStopInProbeOrderRow : OpenClaim := { program := "qxb6602653a", sum := "1b16c2be32e3eac1741286dbfb595f4e3820bd86ad7ffbb8efe26931a90ed92d", func := "example.com/chainmail/chainmail/zzlaws_internal_store_b1.FnProbeGivesNearestStopInProbeOrder", spec := "fnProbeGivesNearestStopInProbeOrder", apart := false }
def FnProbeGivesNearestStopInProbeOrderSaid : Prop := fnProbeGivesNearestStopInProbeOrderRow.holds Try.pinned (OpenSpec.ofChange fnProbeGivesNearestStopInProbeOrderSpec)

/-- ITS FALSE NEIGHBOUR: 'it returns false'. Refute it at one input. -/
def fnProbeGivesNearestStopInProbeOrderWrong : ChangeSpec := { name := "fnProbeGivesNearestStopInProbeOrder", fn := fun _ => fun
  | [d1, d2, d3, d4, d5] => { results := [.lit (.bool false)], args := [d1, d2, d3, d4, d5] }
  | _ => none }
def FnProbeGivesNearestStopInProbeOrderWrongFalsely : Prop := fnProbeGivesNearestStopInProbeOrderRow.holds Try.pinned (OpenSpec.ofChange fnProbeGivesNearestStopInProbeOrderWrong)

/-- 'zzlaws_internal_store_b1.FnProbeFindsWhatItPlaced': WHATEVER THE INPUT: true; the input reads as it did. -/
def fnProbeFindsWhatItPlacedSpec : ChangeSpec := { name := "fnProbeFindsWhatItPlaced", fn := fun _ => fun
  | [d1, d2, d3] => { results := [.lit (.bool true)], args := [d1, d2, d3] }
  | _ => none }
def fnProbeFindsWhatItPlacedRow : OpenClaim := { program := "qxb6602653a", sum := "1b16c2be32e3eac1741286dbfb595f4e3820bd86ad7ffbb8efe26931a90ed92d", func := "example.com/chainmail/chainmail/zzlaws_internal_store_b1.FnProbeFindsWhatItPlaced", spec := "fnProbeFindsWhatItPlaced", apart := false }
def FnProbeFindsWhatItPlacedSaid : Prop := fnProbeFindsWhatItPlacedRow.holds Try.pinned (OpenSpec.ofChange fnProbeFindsWhatItPlacedSpec)

/-- ITS FALSE NEIGHBOUR: 'it returns false'. Refute it at one input. -/
def fnProbeFindsWhatItPlacedWrong : ChangeSpec := { name := "fnProbeFindsWhatItPlaced", fn := fun _ => fun
  | [d1, d2, d3] => { results := [.lit (.bool false)], args := [d1, d2, d3] }
  | _ => none }
def FnProbeFindsWhatItPlacedWrongFalsely : Prop := fnProbeFindsWhatItPlacedRow.holds Try.pinned (OpenSpec.ofChange fnProbeFindsWhatItPlacedWrong)

/-- 'zzlaws_internal_store_b1.FnWriteSetAddAppendsAndKeepsIndexExact': WHATEVER THE INPUT: true; the input reads as it did. -/
def fnWriteSetAddAppendsAndKeepsIndexExactSpec : ChangeSpec := { name := "fnWriteSetAddAppendsAndKeepsIndexExact", fn := fun _ => fun
  | [d1, d2, d3, d4, d5] => { results := [.lit (.bool true)], args := [d1, d2, d3, d4, d5] }
  | _ => none }
def fnWriteSetAddAppendsAndKeepsIndexExactRow : OpenClaim := { program := "qxb6602653a", sum := "1b16c2be32e3eac1741286dbfb595f4e3820bd86ad7ffbb8efe26931a90ed92d", func := "example.com/chainmail/chainmail/zzlaws_internal_store_b1.FnWriteSetAddAppendsAndKeepsIndexExact", spec := "fnWriteSetAddAppendsAndKeepsIndexExact", apart := false }
def FnWriteSetAddAppendsAndKeepsIndexExactSaid : Prop := fnWriteSetAddAppendsAndKeepsIndexExactRow.holds Try.pinned (OpenSpec.ofChange fnWriteSetAddAppendsAndKeepsIndexExactSpec)

/-- ITS FALSE NEIGHBOUR: 'it returns false'. Refute it at one input. -/
def fnWriteSetAddAppendsAndKeepsIndexExactWrong : ChangeSpec := { name := "fnWriteSetAddAppendsAndKeepsIndexExact", fn := fun _ => fun
  | [d1, d2, d3, d4, d5] => { results := [.lit (.bool false)], args := [d1, d2, d3, d4, d5] }
  | _ => none }
def FnWriteSetAddAppendsAndKeepsIndexExactWrongFalsely : Prop := fnWriteSetAddAppendsAndKeepsIndexExactRow.holds Try.pinned (OpenSpec.ofChange fnWriteSetAddAppendsAndKeepsIndexExactWrong)

/-- 'zzlaws_internal_store_b1.FnWriteSetAddsFromEmptyKeepOrderAndIndex': WHATEVER THE INPUT: true; the input reads as it did. -/
def fnWriteSetAddsFromEmptyKeepOrderAndIndexSpec : ChangeSpec := { name := "fnWriteSetAddsFromEmptyKeepOrderAndIndex", fn := fun _ => fun
  | [d1, d2] => { results := [.lit (.bool true)], args := [d1, d2] }
  | _ => none }
def fnWriteSetAddsFromEmptyKeepOrderAndIndexRow : OpenClaim := { program := "qxb6602653a", sum := "1b16c2be32e3eac1741286dbfb595f4e3820bd86ad7ffbb8efe26931a90ed92d", func := "example.com/chainmail/chainmail/zzlaws_internal_store_b1.FnWriteSetAddsFromEmptyKeepOrderAndIndex", spec := "fnWriteSetAddsFromEmptyKeepOrderAndIndex", apart := false }
def FnWriteSetAddsFromEmptyKeepOrderAndIndexSaid : Prop := fnWriteSetAddsFromEmptyKeepOrderAndIndexRow.holds Try.pinned (OpenSpec.ofChange fnWriteSetAddsFromEmptyKeepOrderAndIndexSpec)

/-- ITS FALSE NEIGHBOUR: 'it returns false'. Refute it at one input. -/
def fnWriteSetAddsFromEmptyKeepOrderAndIndexWrong : ChangeSpec := { name := "fnWriteSetAddsFromEmptyKeepOrderAndIndex", fn := fun _ => fun
  | [d1, d2] => { results := [.lit (.bool false)], args := [d1, d2] }
  | _ => none }
def FnWriteSetAddsFromEmptyKeepOrderAndIndexWrongFalsely : Prop := fnWriteSetAddsFromEmptyKeepOrderAndIndexRow.holds Try.pinned (OpenSpec.ofChange fnWriteSetAddsFromEmptyKeepOrderAndIndexWrong)

/-- 'zzlaws_internal_store_b1.FnSlotWriteHoldsOwnCopy': WHATEVER THE INPUT: true; the input reads as it did. -/
def fnSlotWriteHoldsOwnCopySpec : ChangeSpec := { name := "fnSlotWriteHoldsOwnCopy", fn := fun _ => fun
  | [d1, d2, d3, d4, d5, d6] => { results := [.lit (.bool true)], args := [d1, d2, d3, d4, d5, d6] }
  | _ => none }
def fnSlotWriteHoldsOwnCopyRow : OpenClaim := { program := "qxb6602653a", sum := "1b16c2be32e3eac1741286dbfb595f4e3820bd86ad7ffbb8efe26931a90ed92d", func := "example.com/chainmail/chainmail/zzlaws_internal_store_b1.FnSlotWriteHoldsOwnCopy", spec := "fnSlotWriteHoldsOwnCopy", apart := false }
def FnSlotWriteHoldsOwnCopySaid : Prop := fnSlotWriteHoldsOwnCopyRow.holds Try.pinned (OpenSpec.ofChange fnSlotWriteHoldsOwnCopySpec)

/-- ITS FALSE NEIGHBOUR: 'it returns false'. Refute it at one input. -/
def fnSlotWriteHoldsOwnCopyWrong : ChangeSpec := { name := "fnSlotWriteHoldsOwnCopy", fn := fun _ => fun
  | [d1, d2, d3, d4, d5, d6] => { results := [.lit (.bool false)], args := [d1, d2, d3, d4, d5, d6] }
  | _ => none }
def FnSlotWriteHoldsOwnCopyWrongFalsely : Prop := fnSlotWriteHoldsOwnCopyRow.holds Try.pinned (OpenSpec.ofChange fnSlotWriteHoldsOwnCopyWrong)

/-- 'zzlaws_internal_store_b1.FnSlotLastWriteWinsAndIsOwned': WHATEVER THE INPUT: true; the input reads as it did. -/
def fnSlotLastWriteWinsAndIsOwnedSpec : ChangeSpec := { name := "fnSlotLastWriteWinsAndIsOwned", fn := fun _ => fun
  | [d1, d2, d3, d4] => { results := [.lit (.bool true)], args := [d1, d2, d3, d4] }
  | _ => none }
def fnSlotLastWriteWinsAndIsOwnedRow : OpenClaim := { program := "qxb6602653a", sum := "1b16c2be32e3eac1741286dbfb595f4e3820bd86ad7ffbb8efe26931a90ed92d", func := "example.com/chainmail/chainmail/zzlaws_internal_store_b1.FnSlotLastWriteWinsAndIsOwned", spec := "fnSlotLastWriteWinsAndIsOwned", apart := false }
def FnSlotLastWriteWinsAndIsOwnedSaid : Prop := fnSlotLastWriteWinsAndIsOwnedRow.holds Try.pinned (OpenSpec.ofChange fnSlotLastWriteWinsAndIsOwnedSpec)

/-- ITS FALSE NEIGHBOUR: 'it returns false'. Refute it at one input. -/
def fnSlotLastWriteWinsAndIsOwnedWrong : ChangeSpec := { name := "fnSlotLastWriteWinsAndIsOwned", fn := fun _ => fun
  | [d1, d2, d3, d4] => { results := [.lit (.bool false)], args := [d1, d2, d3, d4] }
  | _ => none }
def FnSlotLastWriteWinsAndIsOwnedWrongFalsely : Prop := fnSlotLastWriteWinsAndIsOwnedRow.holds Try.pinned (OpenSpec.ofChange fnSlotLastWriteWinsAndIsOwnedWrong)

end Rows
end Go.Proofs.Qxb6602653a
