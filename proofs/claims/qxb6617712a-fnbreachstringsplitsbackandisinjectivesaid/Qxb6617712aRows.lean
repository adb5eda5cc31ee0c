/-
  No cell of these rows narrows 'for every input' (looked for: loops, veiled, ifaces, maps, wideKeys, modest, calm, conditions, laid).
  DERIVED. THE GIVEN ROWS OF THIS SEAT. 1 by the template 'for every input the law returns true; each argument reads behind the call as it read before'; 0 by the template 'total and deterministic' (their statements: Qxb6617712aTotals.lean).
  GIVEN WITH THE SEED: the statements are not yours to turn. If you find one false, say at which input.
  Laid BY PROGRAM, IN A SANDBOX (cutbox-rows.mjs): the forced cells as the released guide's own fill.sh prints them over the translation 59ffab447248fa8a… (all of the seat's roots in one cut). By AI agents, Wed Nov 11 2026. No macro, syntax, notation, axiom, sorry.
-/
import Derived.Test.Qxb6617712aChecked
import GoSem.Claim
import GoSem.ClaimJoined
import GoSem.ClaimMapViews
import Derived.JoinedTies
import Derived.KernelRfl
namespace Go.Proofs.Qxb6617712a
/- THE CELL 'sum', in the pinned program and in every row, IS THE sha256 OF THE DUMP (.gsa) THAT Qxb6617712aProg.lean LOADS. Nothing in Lean hashes anything: it is a label: what it is worth is what the hold of that sum in a sandbox is worth. -/
noncomputable def Try.pinned : Pinned := { name := "qxb6617712a", sum := "59ffab447248fa8aa80b3f4cc381022844ae4570f4d4f8bfc3b7b154caf36362", checked := Try.checked }
namespace Rows
def none {H : Type} : Left H := { results := [], args := [] }

/-- 'zzlaws_check_b1.FnBreachStringSplitsBackAndIsInjective': WHATEVER THE INPUT: true; the input reads as it did. -/
def fnBreachStringSplitsBackAndIsInjectiveSpec : ChangeSpec := { name := "fnBreachStringSplitsBackAndIsInjective", fn := fun _ => fun
  | [d1, d2, d3, d4] => { results := [.lit (.bool true)], args := [d1, d2, d3, d4] }
  | _ => none }
def fnBreachStringSplitsBackAndIsInjectiveRow : OpenClaim := { program := "qxb6617712a", sum := "59ffab447248fa8aa80b3f4cc381022844ae4570f4d4f8bfc3b7b154caf36362", func := "example.com/gavelwright/gavelwright/zzlaws_check_b1.FnBreachStringSplitsBackAndIsInjective", spec := "fnBreachStringSplitsBackAndIsInjective", apart := false }
def FnBreachStringSplitsBackAndIsInjectiveSaid : Prop := fnBreachStringSplitsBackAndIsInjectiveRow.holds Try.pinned (OpenSpec.ofChange fnBreachStringSplitsBackAndIsInjectiveSpec)

/-- ITS FALSE NEIGHBOUR: 'it returns false'. Refute it at one input. -/
def fnBreachStringSplitsBackAndIsInjectiveWrong : ChangeSpec := { name := "fnBreachStringSplitsBackAndIsInjective", fn := fun _ => fun
  | [d1, d2, d3, d4] => { results := [.lit (.bool false)], args := [d1, d2, d3, d4] }
  | _ => none }
def FnBreachStringSplitsBackAndIsInjectiveWrongFalsely : Prop := fnBreachStringSplitsBackAndIsInjectiveRow.holds Try.pinned (OpenSpec.ofChange fnBreachStringSplitsBackAndIsInjectiveWrong)

end Rows
end Go.Proofs.Qxb6617712a
