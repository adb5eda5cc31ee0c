/-
  No cell of these rows narrows 'for every input' (looked for: loops, veiled, ifaces, maps, wideKeys, modest, calm, conditions, laid).
  DERIVED. THE GIVEN ROWS OF THIS SEAT. 3 by the template 'for every input the law returns true; each argument reads behind the call as it read before'; 0 by the template 'total and deterministic' (their statements: Qxb6616883aTotals.lean).
  GIVEN WITH THE SEED: the statements are not yours to turn. If you find one false, say at which input.
  Laid BY PROGRAM, IN A SANDBOX (cutbox-rows.mjs): the forced cells as the released guide's own fill.sh prints them over the translation dbfa6c8dddf6a1d9… (all of the seat's roots in one cut). By AI agents, Wed Nov 11 2026. No macro, syntax, notation, axiom, sorry.
-/
import Derived.Test.Qxb6616883aChecked
import GoSem.Claim
import GoSem.ClaimJoined
import GoSem.ClaimMapViews
import Derived.JoinedTies
import Derived.KernelRfl
namespace Go.Proofs.Qxb6616883a
/- THE CELL 'sum', in the pinned program and in every row, IS THE sha256 OF THE DUMP (.gsa) THAT Qxb6616883aProg.lean LOADS. Nothing in Lean hashes anything: it is a label: what it is worth is what the hold of that sum in a sandbox is worth. -/
noncomputable def Try.pinned : Pinned := { name := "qxb6616883a", sum := "dbfa6c8dddf6a1d927127984071eea0ff50c8630da2a7ca9743fa75f7289960d", checked := Try.checked }
namespace Rows
def none {H : Type} : Left H := { results := [], args := [] }

/-- 'zzlaws_internal_consensus_b1.FnIsNilByClearingEachByte': WHATEVER THE INPUT: true; the input reads as it did. -/
def fnIsNilByClearingEachByteSpec : ChangeSpec := { name := "fnIsNilByClearingEachByte", fn := fun _ => fun
  | [d] => { results := [.lit (.bool true)], args := [d] }
  | _ => none }
def fnIsNilByClearingEachByteRow : OpenClaim := { program := "qxb6616883a", sum := "dbfa6c8dddf6a1d927127984071eea0ff50c8630da2a7ca9743fa75f7289960d", func := "example.com/roundlock/roundlock/zzlaws_internal_consensus_b1.FnIsNilByClearingEachByte", spec := "fnIsNilByClearingEachByte", apart := false }
def FnIsNilByClearingEachByteSaid : Prop := fnIsNilByClearingEachByteRow.holds Try.pinned (OpenSpec.ofChange fnIsNilByClearingEachByteSpec)

/-- ITS FALSE NEIGHBOUR: 'it returns false'. Refute it at one input. -/
def fnIsNilByClearingEachByteWrong : ChangeSpec := { name := "fnIsNilByClearingEachByte", fn := fun _ => fun
  | [d] => { results := [.lit (.bool false)], args := [d] }
  | _ => none }
def FnIsNilByClearingEachByteWrongFalsely : Prop := fnIsNilByClearingEachByteRow.holds Try.pinned (OpenSpec.ofChange fnIsNilByClearingEachByteWrong)

/-- 'zzlaws_internal_consensus_b1.FnAddressStringLeadsBlockIDString': WHATEVER THE INPUT: true; the input reads as it did. -/
def fnAddressStringLeadsBlockIDStringSpec : ChangeSpec := { name := "fnAddressStringLeadsBlockIDString", fn := fun _ => fun
  | [d1, d2] => { results := [.lit (.bool true)], args := [d1, d2] }
  | _ => none }
def fnAddressStringLeadsBlockIDStringRow : OpenClaim := { program := "qxb6616883a", sum := "dbfa6c8dddf6a1d927127984071eea0ff50c8630da2a7ca9743fa75f7289960d", func := "example.com/roundlock/roundlock/zzlaws_internal_consensus_b1.FnAddressStringLeadsBlockIDString", spec := "fnAddressStringLeadsBlockIDString", apart := false }
def FnAddressStringLeadsBlockIDStringSaid : Prop := fnAddressStringLeadsBlockIDStringRow.holds Try.pinned (OpenSpec.ofChange fnAddressStringLeadsBlockIDStringSpec)

/-- ITS FALSE NEIGHBOUR: 'it returns false'. Refute it at one input. -/
def fnAddressStringLeadsBlockIDStringWrong : ChangeSpec := { name := "fnAddressStringLeadsBlockIDString", fn := fun _ => fun
  | [d1, d2] => { results := [.lit (.bool false)], args := [d1, d2] }
  | _ => none }
def FnAddressStringLeadsBlockIDStringWrongFalsely : Prop := fnAddressStringLeadsBlockIDStringRow.holds Try.pinned (OpenSpec.ofChange fnAddressStringLeadsBlockIDStringWrong)

/-- 'zzlaws_internal_consensus_b1.FnAddressStringKeepsOrderAndDecodes': WHATEVER THE INPUT: true; the input reads as it did. -/
def fnAddressStringKeepsOrderAndDecodesSpec : ChangeSpec := { name := "fnAddressStringKeepsOrderAndDecodes", fn := fun _ => fun
  | [d1, d2] => { results := [.lit (.bool true)], args := [d1, d2] }
  | _ => none }
def fnAddressStringKeepsOrderAndDecodesRow : OpenClaim := { program := "qxb6616883a", sum := "dbfa6c8dddf6a1d927127984071eea0ff50c8630da2a7ca9743fa75f7289960d", func := "example.com/roundlock/roundlock/zzlaws_internal_consensus_b1.FnAddressStringKeepsOrderAndDecodes", spec := "fnAddressStringKeepsOrderAndDecodes", apart := false }
def FnAddressStringKeepsOrderAndDecodesSaid : Prop := fnAddressStringKeepsOrderAndDecodesRow.holds Try.pinned (OpenSpec.ofChange fnAddressStringKeepsOrderAndDecodesSpec)

/-- ITS FALSE NEIGHBOUR: 'it returns false'. Refute it at one input. -/
def fnAddressStringKeepsOrderAndDecodesWrong : ChangeSpec := { name := "fnAddressStringKeepsOrderAndDecodes", fn := fun _ => fun
  | [d1, d2] => { results := [.lit (.bool false)], args := [d1, d2] }
  | _ => none }
def FnAddressStringKeepsOrderAndDecodesWrongFalsely : Prop := fnAddressStringKeepsOrderAndDecodesRow.holds Try.pinned (OpenSpec.ofChange fnAddressStringKeepsOrderAndDecodesWrong)

end Rows
end Go.Proofs.Qxb6616883a
