/-
  No cell of these rows narrows 'for every input' (looked for: loops, veiled, ifaces, maps, wideKeys, modest, calm, conditions, laid).
  DERIVED. THE GIVEN ROWS OF THIS SEAT. 2 by the template 'for every input the law returns true; each argument reads behind the call as it read before'; 0 by the template 'total and deterministic' (their statements: Qxb6605576aTotals.lean).
  GIVEN WITH THE SEED: the statements are not yours to turn. If you find one false, say at which input.
  Laid BY PROGRAM, IN A SANDBOX (cutbox-rows.mjs): the forced cells as the released guide's own fill.sh prints them over the translation 6efc1fbf5c36d294… (all of the seat's roots in one cut). By AI agents, Wed Nov 11 2026. No macro, syntax, notation, axiom, sorry.
-/
import Derived.Test.Qxb6605576aChecked
import GoSem.Claim
import GoSem.ClaimJoined
import GoSem.ClaimMapViews
import Derived.JoinedTies
import Derived.KernelRfl
namespace Go.Proofs.Qxb6605576a
/- THE CELL 'sum', in the pinned program and in every row, IS THE sha256 OF THE DUMP (.gsa) THAT Qxb6605576aProg.lean LOADS. Nothing in Lean hashes anything: it is a label: what it is worth is what the hold of that sum in a sandbox is worth. -/
noncomputable def Try.pinned : Pinned := { name := "qxb6605576a", sum := "6efc1fbf5c36d294bc1b25992f336d1373efcd7da25ad91fc3afec2b3b50388b", checked := Try.checked }
namespace Rows
def none {H : Type} : Left H := { results := [], args := [] }

/-- 'zzlaws_internal_config_b1.FnIsNameMatchesGrammar': WHATEVER THE INPUT: true; the input reads as it did. -/
def fnIsNameMatchesGrammarSpec : ChangeSpec := { name := "fnIsNameMatchesGrammar", fn := fun _ => fun
  | [d] => { results := [.lit (.bool true)], args := [d] }
  | _ => none }
def fnIsNameMatchesGrammarRow : OpenClaim := { program := "qxb6605576a", sum := "6efc1fbf5c36d294bc1b25992f336d1373efcd7da25ad91fc3afec2b3b50388b", func := "example.com/kedge/kedge/zzlaws_internal_config_b1.FnIsNameMatchesGrammar", spec := "fnIsNameMatchesGrammar", apart := false }
def FnIsNameMatchesGrammarSaid : Prop := fnIsNameMatchesGrammarRow.holds Try.pinned (OpenSpec.ofChange fnIsNameMatchesGrammarSpec)

/-- ITS FALSE NEIGHBOUR: 'it returns false'. Refute it at one input. -/
def fnIsNameMatchesGrammarWrong : ChangeSpec := { name := "fnIsNameMatchesGrammar", fn := fun _ => fun
  | [d] => { results := [.lit (.bool false)], args := [d] }
  | _ => none }
def FnIsNameMatchesGrammarWrongFalsely : Prop := fnIsNameMatchesGrammarRow.holds Try.pinned (OpenSpec.ofChange fnIsNameMatchesGrammarWrong)

/-- 'zzlaws_internal_config_b1.FnIsNameAcceptsBuiltRefusesSpoilt': WHATEVER THE INPUT: true; the input reads as it did. -/
def fnIsNameAcceptsBuiltRefusesSpoiltSpec : ChangeSpec := { name := "fnIsNameAcceptsBuiltRefusesSpoilt", fn := fun _ => fun
  | [d] => { results := [.lit (.bool true)], args := [d] }
  | _ => none }
def fnIsNameAcceptsBuiltRefusesSpoiltRow : OpenClaim := { program := "qxb6605576a", sum := "6efc1fbf5c36d294bc1b25992f336d1373efcd7da25ad91fc3afec2b3b50388b", func := "example.com/kedge/kedge/zzlaws_internal_config_b1.FnIsNameAcceptsBuiltRefusesSpoilt", spec := "fnIsNameAcceptsBuiltRefusesSpoilt", apart := false }
def FnIsNameAcceptsBuiltRefusesSpoiltSaid : Prop := fnIsNameAcceptsBuiltRefusesSpoiltRow.holds Try.pinned (OpenSpec.ofChange fnIsNameAcceptsBuiltRefusesSpoiltSpec)

/-- ITS FALSE NEIGHBOUR: 'it returns false'. Refute it at one input. -/
def fnIsNameAcceptsBuiltRefusesSpoiltWrong : ChangeSpec := { name := "fnIsNameAcceptsBuiltRefusesSpoilt", fn := fun _ => fun
  | [d] => { results := [.lit (.bool false)], args := [d] }
  | _ => none }
def FnIsNameAcceptsBuiltRefusesSpoiltWrongFalsely : Prop := fnIsNameAcceptsBuiltRefusesSpoiltRow.holds Try.pinned (OpenSpec.ofChange fnIsNameAcceptsBuiltRefusesSpoiltWrong)

end Rows
end Go.Proofs.Qxb6605576a
