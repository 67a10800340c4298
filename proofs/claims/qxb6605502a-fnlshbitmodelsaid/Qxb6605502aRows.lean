/-
  No cell of these rows narrows 'for every input' (looked for: loops, veiled, ifaces, maps, wideKeys, modest, calm, conditions, laid).
  DERIVED. THE GIVEN ROWS OF THIS SEAT. 6 by the template 'for every input the law returns true; each argument reads behind the call as it read before'; 0 by the template 'total and deterministic' (their statements: Qxb6605502aTotals.lean).
  GIVEN WITH THE SEED: the statements are not yours to turn. If you find one false, say at which input.
  Laid BY PROGRAM, IN A SANDBOX (cutbox-rows.mjs): the forced cells as the released guide's own fill.sh prints them over the translation e561c5b4e4586352… (all of the seat's roots in one cut). By AI agents, Wed Nov 11 2026. No macro, syntax, notation, axiom, sorry.
-/
import Derived.Test.Qxb6605502aChecked
import GoSem.Claim
import GoSem.ClaimJoined
import GoSem.ClaimMapViews
import Derived.JoinedTies
import Derived.KernelRfl
namespace Go.Proofs.Qxb6605502a
/- THE CELL 'sum', in the pinned program and in every row, IS THE sha256 OF THE DUMP (.gsa) THAT Qxb6605502aProg.lean LOADS. Nothing in Lean hashes anything: it is a label: what it is worth is what the hold of that sum in a sandbox is worth. -/
noncomputable def Try.pinned : Pinned := { name := "qxb6605502a", sum := "e561c5b4e45863523f467572bd90d44203ab47bc6f0277c63efb1faa22b590e9", checked := Try.checked }
namespace Rows
def none {H : Type} : Left H := { results := [], args := [] }

/-- 'zzlaws_internal_u256_b1.FnLshBitModel': WHATEVER THE INPUT: true; the input reads as it did. -/
def fnLshBitModelSpec : ChangeSpec := { name := "fnLshBitModel", fn := fun _ => fun
  | [d1, d2, d3, d4, d5] => { results := [.lit (.bool true)], args := [d1, d2, d3, d4, d5] }
  | _ => none }
def fnLshBitModelRow : OpenClaim := { program := "qxb6605502a", sum := "e561c5b4e45863523f467572bd90d44203ab47bc6f0277c63efb1faa22b590e9", func := "example.com/kilnstate/kilnstate/zzlaws_internal_u256_b1.FnLshBitModel", spec := "fnLshBitModel", apart := false }
def FnLshBitModelSaid : Prop := fnLshBitModelRow.holds Try.pinned (OpenSpec.ofChange fnLshBitModelSpec)

/-- ITS FALSE NEIGHBOUR: 'it returns false'. Refute it at one input. -/
def fnLshBitModelWrong : ChangeSpec := { name := "fnLshBitModel", fn := fun _ => fun
  | [d1, d2, d3, d4, d5] => { results := [.lit (.bool false)], args := [d1, d2, d3, d4, d5] }
  | _ => none }
def FnLshBitModelWrongFalsely : Prop := fnLshBitModelRow.holds Try.pinned (OpenSpec.ofChange fnLshBitModelWrong)

/-- 'zzlaws_internal_u256_b1.FnLshThenRshClearsTop': WHATEVER THE INPUT: true; the input reads as it did. -/
def fnLshThenRshClearsTopSpec : ChangeSpec := { name := "fnLshThenRshClearsTop", fn := fun _ => fun
  | [d1, d2, d3, d4, d5] => { results := [.lit (.bool true)], args := [d1, d2, d3, d4, d5] }
  | _ => none }
def fnLshThenRshClearsTopRow : OpenClaim := { program := "qxb6605502a", sum := "e561c5b4e45863523f467572bd90d44203ab47bc6f0277c63efb1faa22b590e9", func := "example.com/kilnstate/kilnstate/zzlaws_internal_u256_b1.FnLshThenRshClearsTop", spec := "fnLshThenRshClearsTop", apart := false }
def FnLshThenRshClearsTopSaid : Prop := fnLshThenRshClearsTopRow.holds Try.pinned (OpenSpec.ofChange fnLshThenRshClearsTopSpec)

/-- ITS FALSE NEIGHBOUR: 'it returns false'. Refute it at one input. -/
def fnLshThenRshClearsTopWrong : ChangeSpec := { name := "fnLshThenRshClearsTop", fn := fun _ => fun
  | [d1, d2, d3, d4, d5] => { results := [.lit (.bool false)], args := [d1, d2, d3, d4, d5] }
  | _ => none }
def FnLshThenRshClearsTopWrongFalsely : Prop := fnLshThenRshClearsTopRow.holds Try.pinned (OpenSpec.ofChange fnLshThenRshClearsTopWrong)

/-- 'zzlaws_internal_u256_b1.FnRshBitModel': WHATEVER THE INPUT: true; the input reads as it did. -/
def fnRshBitModelSpec : ChangeSpec := { name := "fnRshBitModel", fn := fun _ => fun
  | [d1, d2, d3, d4, d5] => { results := [.lit (.bool true)], args := [d1, d2, d3, d4, d5] }
  | _ => none }
def fnRshBitModelRow : OpenClaim := { program := "qxb6605502a", sum := "e561c5b4e45863523f467572bd90d44203ab47bc6f0277c63efb1faa22b590e9", func := "example.com/kilnstate/kilnstate/zzlaws_internal_u256_b1.FnRshBitModel", spec := "fnRshBitModel", apart := false }
def FnRshBitModelSaid : Prop := fnRshBitModelRow.holds Try.pinned (OpenSpec.ofChange fnRshBitModelSpec)

/-- ITS FALSE NEIGHBOUR: 'it returns false'. Refute it at one input. -/
def fnRshBitModelWrong : ChangeSpec := { name := "fnRshBitModel", fn := fun _ => fun
  | [d1, d2, d3, d4, d5] => { results := [.lit (.bool false)], args := [d1, d2, d3, d4, d5] }
  | _ => none }
def FnRshBitModelWrongFalsely : Prop := fnRshBitModelRow.holds Try.pinned (OpenSpec.ofChange fnRshBitModelWrong)

/-- 'zzlaws_internal_u256_b1.FnRshThenLshClearsBottom': WHATEVER THE INPUT: true; the input reads as it did. -/
def fnRshThenLshClearsBottomSpec : ChangeSpec := { name := "fnRshThenLshClearsBottom", fn := fun _ => fun
  | [d1, d2, d3, d4, d5] => { results := [.lit (.bool true)], args := [d1, d2, d3, d4, d5] }
  | _ => none }
def fnRshThenLshClearsBottomRow : OpenClaim := { program := "qxb6605502a", sum := "e561c5b4e45863523f467572bd90d44203ab47bc6f0277c63efb1faa22b590e9", func := "example.com/kilnstate/kilnstate/zzlaws_internal_u256_b1.FnRshThenLshClearsBottom", spec := "fnRshThenLshClearsBottom", apart := false }
def FnRshThenLshClearsBottomSaid : Prop := fnRshThenLshClearsBottomRow.holds Try.pinned (OpenSpec.ofChange fnRshThenLshClearsBottomSpec)

/-- ITS FALSE NEIGHBOUR: 'it returns false'. Refute it at one input. -/
def fnRshThenLshClearsBottomWrong : ChangeSpec := { name := "fnRshThenLshClearsBottom", fn := fun _ => fun
  | [d1, d2, d3, d4, d5] => { results := [.lit (.bool false)], args := [d1, d2, d3, d4, d5] }
  | _ => none }
def FnRshThenLshClearsBottomWrongFalsely : Prop := fnRshThenLshClearsBottomRow.holds Try.pinned (OpenSpec.ofChange fnRshThenLshClearsBottomWrong)

/-- 'zzlaws_internal_u256_b1.FnSRshBitModel': WHATEVER THE INPUT: true; the input reads as it did. -/
def fnSRshBitModelSpec : ChangeSpec := { name := "fnSRshBitModel", fn := fun _ => fun
  | [d1, d2, d3, d4, d5] => { results := [.lit (.bool true)], args := [d1, d2, d3, d4, d5] }
  | _ => none }
def fnSRshBitModelRow : OpenClaim := { program := "qxb6605502a", sum := "e561c5b4e45863523f467572bd90d44203ab47bc6f0277c63efb1faa22b590e9", func := "example.com/kilnstate/kilnstate/zzlaws_internal_u256_b1.FnSRshBitModel", spec := "fnSRshBitModel", apart := false }
def FnSRshBitModelSaid : Prop := fnSRshBitModelRow.holds Try.pinned (OpenSpec.ofChange fnSRshBitModelSpec)

/-- ITS FALSE NEIGHBOUR: 'it returns false'. Refute it at one input. -/
def fnSRshBitModelWrong : ChangeSpec := { name := "fnSRshBitModel", fn := fun _ => fun
  | [d1, d2, d3, d4, d5] => { results := [.lit (.bool false)], args := [d1, d2, d3, d4, d5] }
  | _ => none }
def FnSRshBitModelWrongFalsely : Prop := fnSRshBitModelRow.holds Try.pinned (OpenSpec.ofChange fnSRshBitModelWrong)

/-- 'zzlaws_internal_u256_b1.FnSRshIsRshWithSignFill': WHATEVER THE INPUT: true; the input reads as it did. -/
def fnSRshIsRshWithSignFillSpec : ChangeSpec := { name := "fnSRshIsRshWithSignFill", fn := fun _ => fun
  | [d1, d2, d3, d4, d5] => { results := [.lit (.bool true)], args := [d1, d2, d3, d4, d5] }
  | _ => none }
def fnSRshIsRshWithSignFillRow : OpenClaim := { program := "qxb6605502a", sum := "e561c5b4e45863523f467572bd90d44203ab47bc6f0277c63efb1faa22b590e9", func := "example.com/kilnstate/kilnstate/zzlaws_internal_u256_b1.FnSRshIsRshWithSignFill", spec := "fnSRshIsRshWithSignFill", apart := false }
def FnSRshIsRshWithSignFillSaid : Prop := fnSRshIsRshWithSignFillRow.holds Try.pinned (OpenSpec.ofChange fnSRshIsRshWithSignFillSpec)

/-- ITS FALSE NEIGHBOUR: 'it returns false'. Refute it at one input. -/
def fnSRshIsRshWithSignFillWrong : ChangeSpec := { name := "fnSRshIsRshWithSignFill", fn := fun _ => fun
  | [d1, d2, d3, d4, d5] => { results := [.lit (.bool false)], args := [d1, d2, d3, d4, d5] }
  | _ => none }
def FnSRshIsRshWithSignFillWrongFalsely : Prop := fnSRshIsRshWithSignFillRow.holds Try.pinned (OpenSpec.ofChange fnSRshIsRshWithSignFillWrong)

end Rows
end Go.Proofs.Qxb6605502a
