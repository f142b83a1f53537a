/-
  No cell of these rows narrows 'for every input' (looked for: loops, veiled, ifaces, maps, wideKeys, modest, calm, conditions, laid).
  DERIVED. THE GIVEN ROWS OF THIS SEAT. 3 by the template 'for every input the law returns true; each argument reads behind the call as it read before'; 0 by the template 'total and deterministic' (their statements: Qxb6605369aTotals.lean).
  GIVEN WITH THE SEED: the statements are not yours to turn. If you find one false, say at which input.
  Laid BY PROGRAM, IN A SANDBOX (cutbox-rows.mjs): the forced cells as the released guide's own fill.sh prints them over the translation e964ecb6490cb08d… (all of the seat's roots in one cut). By AI agents, Wed Nov 11 2026. No macro, syntax, notation, axiom, sorry.
-/
import Derived.Test.Qxb6605369aChecked
import GoSem.Claim
import GoSem.ClaimJoined
import GoSem.ClaimMapViews
import Derived.JoinedTies
import Derived.KernelRfl
namespace Go.Proofs.Qxb6605369a
/- THE CELL 'sum', in the pinned program and in every row, IS THE sha256 OF THE DUMP (.gsa) THAT Qxb6605369aProg.lean LOADS. Nothing in Lean hashes anything: it is a label: what it is worth is what the hold of that sum in a sandbox is worth. -/
noncomputable def Try.pinned : Pinned := { name := "qxb6605369a", sum := "e964ecb6490cb08d5622ea877f1b026bea0c890e5efec5ff30f7b1260788a2fa", checked := Try.checked }
namespace Rows
def none {H : Type} : Left H := { results := [], args := [] }

/-- 'zzlaws_pkg_sparsemap_b1.FnPickCompactionMatchesSpec': WHATEVER THE INPUT: true; the input reads as it did. -/
def fnPickCompactionMatchesSpecSpec : ChangeSpec := { name := "fnPickCompactionMatchesSpec", fn := fun _ => fun
  | [d] => { results := [.lit (.bool true)], args := [d] }
  | _ => none }
def fnPickCompactionMatchesSpecRow : OpenClaim := { program := "qxb6605369a", sum := "e964ecb6490cb08d5622ea877f1b026bea0c890e5efec5ff30f7b1260788a2fa", func := "example.com/sparsemap/sparsemap/zzlaws_pkg_sparsemap_b1.FnPickCompactionMatchesSpec", spec := "fnPickCompactionMatchesSpec", apart := false }
def FnPickCompactionMatchesSpecSaid : Prop := fnPickCompactionMatchesSpecRow.holds Try.pinned (OpenSpec.ofChange fnPickCompactionMatchesSpecSpec)

/-- ITS FALSE NEIGHBOUR: 'it returns false'. Refute it at one input. -/
def fnPickCompactionMatchesSpecWrong : ChangeSpec := { name := "fnPickCompactionMatchesSpec", fn := fun _ => fun
  | [d] => { results := [.lit (.bool false)], args := [d] }
  | _ => none }
def FnPickCompactionMatchesSpecWrongFalsely : Prop := fnPickCompactionMatchesSpecRow.holds Try.pinned (OpenSpec.ofChange fnPickCompactionMatchesSpecWrong)

/-- 'zzlaws_pkg_sparsemap_b1.FnPickCompactionKeepsTablesAsBinaryDigits': WHATEVER THE INPUT: true; the input reads as it did. -/
def fnPickCompactionKeepsTablesAsBinaryDigitsSpec : ChangeSpec := { name := "fnPickCompactionKeepsTablesAsBinaryDigits", fn := fun _ => fun
  | [d1, d2] => { results := [.lit (.bool true)], args := [d1, d2] }
  | _ => none }
def fnPickCompactionKeepsTablesAsBinaryDigitsRow : OpenClaim := { program := "qxb6605369a", sum := "e964ecb6490cb08d5622ea877f1b026bea0c890e5efec5ff30f7b1260788a2fa", func := "example.com/sparsemap/sparsemap/zzlaws_pkg_sparsemap_b1.FnPickCompactionKeepsTablesAsBinaryDigits", spec := "fnPickCompactionKeepsTablesAsBinaryDigits", apart := false }
def FnPickCompactionKeepsTablesAsBinaryDigitsSaid : Prop := fnPickCompactionKeepsTablesAsBinaryDigitsRow.holds Try.pinned (OpenSpec.ofChange fnPickCompactionKeepsTablesAsBinaryDigitsSpec)

/-- ITS FALSE NEIGHBOUR: 'it returns false'. Refute it at one input. -/
def fnPickCompactionKeepsTablesAsBinaryDigitsWrong : ChangeSpec := { name := "fnPickCompactionKeepsTablesAsBinaryDigits", fn := fun _ => fun
  | [d1, d2] => { results := [.lit (.bool false)], args := [d1, d2] }
  | _ => none }
def FnPickCompactionKeepsTablesAsBinaryDigitsWrongFalsely : Prop := fnPickCompactionKeepsTablesAsBinaryDigitsRow.holds Try.pinned (OpenSpec.ofChange fnPickCompactionKeepsTablesAsBinaryDigitsWrong)

/-- 'zzlaws_pkg_sparsemap_b1.FnPrefixRowsHoldsExactlyThePrefixed': WHATEVER THE INPUT: true; the input reads as it did. -/
def fnPrefixRowsHoldsExactlyThePrefixedSpec : ChangeSpec := { name := "fnPrefixRowsHoldsExactlyThePrefixed", fn := fun _ => fun
  | [d1, d2] => { results := [.lit (.bool true)], args := [d1, d2] }
  | _ => none }
def fnPrefixRowsHoldsExactlyThePrefixedRow : OpenClaim := { program := "qxb6605369a", sum := "e964ecb6490cb08d5622ea877f1b026bea0c890e5efec5ff30f7b1260788a2fa", func := "example.com/sparsemap/sparsemap/zzlaws_pkg_sparsemap_b1.FnPrefixRowsHoldsExactlyThePrefixed", spec := "fnPrefixRowsHoldsExactlyThePrefixed", apart := false }
def FnPrefixRowsHoldsExactlyThePrefixedSaid : Prop := fnPrefixRowsHoldsExactlyThePrefixedRow.holds Try.pinned (OpenSpec.ofChange fnPrefixRowsHoldsExactlyThePrefixedSpec)

/-- ITS FALSE NEIGHBOUR: 'it returns false'. Refute it at one input. -/
def fnPrefixRowsHoldsExactlyThePrefixedWrong : ChangeSpec := { name := "fnPrefixRowsHoldsExactlyThePrefixed", fn := fun _ => fun
  | [d1, d2] => { results := [.lit (.bool false)], args := [d1, d2] }
  | _ => none }
def FnPrefixRowsHoldsExactlyThePrefixedWrongFalsely : Prop := fnPrefixRowsHoldsExactlyThePrefixedRow.holds Try.pinned (OpenSpec.ofChange fnPrefixRowsHoldsExactlyThePrefixedWrong)

end Rows
end Go.Proofs.Qxb6605369a
