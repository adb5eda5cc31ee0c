/-
  No cell of these rows narrows 'for every input' (looked for: loops, veiled, ifaces, maps, wideKeys, modest, calm, conditions, laid).
  DERIVED. THE GIVEN ROWS OF THIS SEAT. 1 by the template 'for every input the law returns true; each argument reads behind the call as it read before'; 0 by the template 'total and deterministic' (their statements: Qxb6616721aTotals.lean).
  GIVEN WITH THE SEED: the statements are not yours to turn. If you find one false, say at which input.
  Laid BY PROGRAM, IN A SANDBOX (cutbox-rows.mjs): the forced cells as the released guide's own fill.sh prints them over the translation 470bdf69848b35d1… (all of the seat's roots in one cut). By AI agents, Wed Nov 11 2026. No macro, syntax, notation, axiom, sorry.
-/
import Derived.Test.Qxb6616721aChecked
import GoSem.Claim
import GoSem.ClaimJoined
import GoSem.ClaimMapViews
import Derived.JoinedTies
import Derived.KernelRfl
namespace Go.Proofs.Qxb6616721a
/- THE CELL 'sum', in the pinned program and in every row, IS THE sha256 OF THE DUMP (.gsa) THAT Qxb6616721aProg.lean LOADS. Nothing in Lean hashes anything: it is a label: what it is worth is what the hold of that sum in a sandbox is worth. -/
noncomputable def Try.pinned : Pinned := { name := "qxb6616721a", sum := "470bdf69848b35d1bfa7f716dd888a026cd94004fd1506c69201e9297dd246d9", checked := Try.checked }
namespace Rows
def none {H : Type} : Left H := { results := [], args := [] }

/-- 'zzlaws_internal_tracecontext_b1.FnTraceIDStringReadsBackAndKeepsOrder': WHATEVER THE INPUT: true; the input reads as it did. -/
def fnTraceIDStringReadsBackAndKeepsOrderSpec : ChangeSpec := { name := "fnTraceIDStringReadsBackAndKeepsOrder", fn := fun _ => fun
  | [d1, d2] => { results := [.lit (.bool true)], args := [d1, d2] }
  | _ => none }
def fnTraceIDStringReadsBackAndKeepsOrderRow : OpenClaim := { program := "qxb6616721a", sum := "470bdf69848b35d1bfa7f716dd888a026cd94004fd1506c69201e9297dd246d9", func := "example.com/backstitch/backstitch/zzlaws_internal_tracecontext_b1.FnTraceIDStringReadsBackAndKeepsOrder", spec := "fnTraceIDStringReadsBackAndKeepsOrder", apart := false }
def FnTraceIDStringReadsBackAndKeepsOrderSaid : Prop := fnTraceIDStringReadsBackAndKeepsOrderRow.holds Try.pinned (OpenSpec.ofChange fnTraceIDStringReadsBackAndKeepsOrderSpec)

/-- ITS FALSE NEIGHBOUR: 'it returns false'. Refute it at one input. -/
def fnTraceIDStringReadsBackAndKeepsOrderWrong : ChangeSpec := { name := "fnTraceIDStringReadsBackAndKeepsOrder", fn := fun _ => fun
  | [d1, d2] => { results := [.lit (.bool false)], args := [d1, d2] }
  | _ => none }
def FnTraceIDStringReadsBackAndKeepsOrderWrongFalsely : Prop := fnTraceIDStringReadsBackAndKeepsOrderRow.holds Try.pinned (OpenSpec.ofChange fnTraceIDStringReadsBackAndKeepsOrderWrong)

end Rows
end Go.Proofs.Qxb6616721a
