/-
  No cell of these rows narrows 'for every input' (looked for: loops, veiled, ifaces, maps, wideKeys, modest, calm, conditions, laid).
  DERIVED. THE GIVEN ROWS OF THIS SEAT. 3 by the template 'for every input the law returns true; each argument reads behind the call as it read before'; 0 by the template 'total and deterministic' (their statements: Qxb6601621aTotals.lean).
  GIVEN WITH THE SEED: the statements are not yours to turn. If you find one false, say at which input.
  Laid BY PROGRAM, IN A SANDBOX (cutbox-rows.mjs): the forced cells as the released guide's own fill.sh prints them over the translation 69bf0a41be8661ba… (all of the seat's roots in one cut). By AI agents, Wed Nov 11 2026. No macro, syntax, notation, axiom, sorry.
-/
import Derived.Test.Qxb6601621aChecked
import GoSem.Claim
import GoSem.ClaimJoined
import GoSem.ClaimMapViews
import Derived.JoinedTies
import Derived.KernelRfl
namespace Go.Proofs.Qxb6601621a
/- THE CELL 'sum', in the pinned program and in every row, IS THE sha256 OF THE DUMP (.gsa) THAT Qxb6601621aProg.lean LOADS. Nothing in Lean hashes anything: it is a label: what it is worth is what the hold of that sum in a sandbox is worth. -/
noncomputable def Try.pinned : Pinned := { name := "qxb6601621a", sum := "69bf0a41be8661baccafd2108b27f14c729a415526092e044c0dbcdd735c6ba2", checked := Try.checked }
namespace Rows
def none {H : Type} : Left H := { results := [], args := [] }

/-- 'zzlaws_pkg_topology_b1.FnParseExponentMatchesClampedValue': WHATEVER THE INPUT: true; the input reads as it did. -/
def fnParseExponentMatchesClampedValueSpec : ChangeSpec := { name := "fnParseExponentMatchesClampedValue", fn := fun _ => fun
  | [d1, d2] => { results := [.lit (.bool true)], args := [d1, d2] }
  | _ => none }
def fnParseExponentMatchesClampedValueRow : OpenClaim := { program := "qxb6601621a", sum := "69bf0a41be8661baccafd2108b27f14c729a415526092e044c0dbcdd735c6ba2", func := "example.com/peerwright/peerwright/zzlaws_pkg_topology_b1.FnParseExponentMatchesClampedValue", spec := "fnParseExponentMatchesClampedValue", apart := false }
def FnParseExponentMatchesClampedValueSaid : Prop := fnParseExponentMatchesClampedValueRow.holds Try.pinned (OpenSpec.ofChange fnParseExponentMatchesClampedValueSpec)

/-- ITS FALSE NEIGHBOUR: 'it returns false'. Refute it at one input. -/
def fnParseExponentMatchesClampedValueWrong : ChangeSpec := { name := "fnParseExponentMatchesClampedValue", fn := fun _ => fun
  | [d1, d2] => { results := [.lit (.bool false)], args := [d1, d2] }
  | _ => none }
def FnParseExponentMatchesClampedValueWrongFalsely : Prop := fnParseExponentMatchesClampedValueRow.holds Try.pinned (OpenSpec.ofChange fnParseExponentMatchesClampedValueWrong)

/-- 'zzlaws_pkg_topology_b1.FnScaledMatchesPlaceValue': WHATEVER THE INPUT: true; the input reads as it did. -/
def fnScaledMatchesPlaceValueSpec : ChangeSpec := { name := "fnScaledMatchesPlaceValue", fn := fun _ => fun
  | [d1, d2, d3, d4] => { results := [.lit (.bool true)], args := [d1, d2, d3, d4] }
  | _ => none }
def fnScaledMatchesPlaceValueRow : OpenClaim := { program := "qxb6601621a", sum := "69bf0a41be8661baccafd2108b27f14c729a415526092e044c0dbcdd735c6ba2", func := "example.com/peerwright/peerwright/zzlaws_pkg_topology_b1.FnScaledMatchesPlaceValue", spec := "fnScaledMatchesPlaceValue", apart := false }
def FnScaledMatchesPlaceValueSaid : Prop := fnScaledMatchesPlaceValueRow.holds Try.pinned (OpenSpec.ofChange fnScaledMatchesPlaceValueSpec)

/-- ITS FALSE NEIGHBOUR: 'it returns false'. Refute it at one input. -/
def fnScaledMatchesPlaceValueWrong : ChangeSpec := { name := "fnScaledMatchesPlaceValue", fn := fun _ => fun
  | [d1, d2, d3, d4] => { results := [.lit (.bool false)], args := [d1, d2, d3, d4] }
  | _ => none }
def FnScaledMatchesPlaceValueWrongFalsely : Prop := fnScaledMatchesPlaceValueRow.holds Try.pinned (OpenSpec.ofChange fnScaledMatchesPlaceValueWrong)

/-- 'zzlaws_pkg_topology_b1.FnScaledOneMorePowerIsTenfold': WHATEVER THE INPUT: true; the input reads as it did. -/
def fnScaledOneMorePowerIsTenfoldSpec : ChangeSpec := { name := "fnScaledOneMorePowerIsTenfold", fn := fun _ => fun
  | [d1, d2, d3, d4] => { results := [.lit (.bool true)], args := [d1, d2, d3, d4] }
  | _ => none }
def fnScaledOneMorePowerIsTenfoldRow : OpenClaim := { program := "qxb6601621a", sum := "69bf0a41be8661baccafd2108b27f14c729a415526092e044c0dbcdd735c6ba2", func := "example.com/peerwright/peerwright/zzlaws_pkg_topology_b1.FnScaledOneMorePowerIsTenfold", spec := "fnScaledOneMorePowerIsTenfold", apart := false }
def FnScaledOneMorePowerIsTenfoldSaid : Prop := fnScaledOneMorePowerIsTenfoldRow.holds Try.pinned (OpenSpec.ofChange fnScaledOneMorePowerIsTenfoldSpec)

/-- ITS FALSE NEIGHBOUR: 'it returns false'. Refute it at one input. -/
def fnScaledOneMorePowerIsTenfoldWrong : ChangeSpec := { name := "fnScaledOneMorePowerIsTenfold", fn := fun _ => fun
  | [d1, d2, d3, d4] => { results := [.lit (.bool false)], args := [d1, d2, d3, d4] }
  | _ => none }
def FnScaledOneMorePowerIsTenfoldWrongFalsely : Prop := fnScaledOneMorePowerIsTenfoldRow.holds Try.pinned (OpenSpec.ofChange fnScaledOneMorePowerIsTenfoldWrong)

end Rows
end Go.Proofs.Qxb6601621a
