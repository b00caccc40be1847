/-
  No cell of these rows narrows 'for every input' (looked for: loops, veiled, ifaces, maps, wideKeys, modest, calm, conditions, laid).
  DERIVED. THE GIVEN ROWS OF THIS SEAT. 2 by the template 'for every input the law returns true; each argument reads behind the call as it read before'; 0 by the template 'total and deterministic' (their statements: Qxb6601471aTotals.lean).
  GIVEN WITH THE SEED: the statements are not yours to turn. If you find one false, say at which input.
  Laid BY PROGRAM, IN A SANDBOX (cutbox-rows.mjs): the forced cells as the released guide's own fill.sh prints them over the translation 1420d2671d56405c… (all of the seat's roots in one cut). By AI agents, Wed Nov 11 2026. No macro, syntax, notation, axiom, sorry.
-/
import Derived.Test.Qxb6601471aChecked
import GoSem.Claim
import GoSem.ClaimJoined
import GoSem.ClaimMapViews
import Derived.JoinedTies
import Derived.KernelRfl
namespace Go.Proofs.Qxb6601471a
/- THE CELL 'sum', in the pinned program and in every row, IS THE sha256 OF THE DUMP (.gsa) THAT Qxb6601471aProg.lean LOADS. Nothing in Lean hashes anything: it is a label: what it is worth is what the hold of that sum in a sandbox is worth. -/
noncomputable def Try.pinned : Pinned := { name := "qxb6601471a", sum := "1420d2671d56405c9d1da95b4af466e2a8da564b87d76bd5b8a6cef3ed7a640c", checked := Try.checked }
namespace Rows
def none {H : Type} : Left H := { results := [], args := [] }

/-- 'zzlaws_client_b1.FnLeaderOfNamesBackAddress': WHATEVER THE INPUT: true; the input reads as it did. -/
def fnLeaderOfNamesBackAddressSpec : ChangeSpec := { name := "fnLeaderOfNamesBackAddress", fn := fun _ => fun
  | [d] => { results := [.lit (.bool true)], args := [d] }
  | _ => none }
def fnLeaderOfNamesBackAddressRow : OpenClaim := { program := "qxb6601471a", sum := "1420d2671d56405c9d1da95b4af466e2a8da564b87d76bd5b8a6cef3ed7a640c", func := "example.com/holdfast/holdfast/zzlaws_client_b1.FnLeaderOfNamesBackAddress", spec := "fnLeaderOfNamesBackAddress", apart := false }
def FnLeaderOfNamesBackAddressSaid : Prop := fnLeaderOfNamesBackAddressRow.holds Try.pinned (OpenSpec.ofChange fnLeaderOfNamesBackAddressSpec)

/-- ITS FALSE NEIGHBOUR: 'it returns false'. Refute it at one input. -/
def fnLeaderOfNamesBackAddressWrong : ChangeSpec := { name := "fnLeaderOfNamesBackAddress", fn := fun _ => fun
  | [d] => { results := [.lit (.bool false)], args := [d] }
  | _ => none }
def FnLeaderOfNamesBackAddressWrongFalsely : Prop := fnLeaderOfNamesBackAddressRow.holds Try.pinned (OpenSpec.ofChange fnLeaderOfNamesBackAddressWrong)

/-- 'zzlaws_client_b1.FnLeaderOfRefusesGluedWord': WHATEVER THE INPUT: true; the input reads as it did. -/
def fnLeaderOfRefusesGluedWordSpec : ChangeSpec := { name := "fnLeaderOfRefusesGluedWord", fn := fun _ => fun
  | [d] => { results := [.lit (.bool true)], args := [d] }
  | _ => none }
def fnLeaderOfRefusesGluedWordRow : OpenClaim := { program := "qxb6601471a", sum := "1420d2671d56405c9d1da95b4af466e2a8da564b87d76bd5b8a6cef3ed7a640c", func := "example.com/holdfast/holdfast/zzlaws_client_b1.FnLeaderOfRefusesGluedWord", spec := "fnLeaderOfRefusesGluedWord", apart := false }
def FnLeaderOfRefusesGluedWordSaid : Prop := fnLeaderOfRefusesGluedWordRow.holds Try.pinned (OpenSpec.ofChange fnLeaderOfRefusesGluedWordSpec)

/-- ITS FALSE NEIGHBOUR: 'it returns false'. Refute it at one input. -/
def fnLeaderOfRefusesGluedWordWrong : ChangeSpec := { name := "fnLeaderOfRefusesGluedWord", fn := fun _ => fun
  | [d] => { results := [.lit (.bool false)], args := [d] }
  | _ => none }
def FnLeaderOfRefusesGluedWordWrongFalsely : Prop := fnLeaderOfRefusesGluedWordRow.holds Try.pinned (OpenSpec.ofChange fnLeaderOfRefusesGluedWordWrong)

end Rows
end Go.Proofs.Qxb6601471a
