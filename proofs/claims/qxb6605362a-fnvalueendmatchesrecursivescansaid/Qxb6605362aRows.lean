/-
  No cell of these rows narrows 'for every input' (looked for: loops, veiled, ifaces, maps, wideKeys, modest, calm, conditions, laid).
  DERIVED. THE GIVEN ROWS OF THIS SEAT. 4 by the template 'for every input the law returns true; each argument reads behind the call as it read before'; 0 by the template 'total and deterministic' (their statements: Qxb6605362aTotals.lean).
  GIVEN WITH THE SEED: the statements are not yours to turn. If you find one false, say at which input.
  Laid BY PROGRAM, IN A SANDBOX (cutbox-rows.mjs): the forced cells as the released guide's own fill.sh prints them over the translation 73c981688c28fcc4… (all of the seat's roots in one cut). By AI agents, Wed Nov 11 2026. No macro, syntax, notation, axiom, sorry.
-/
import Derived.Test.Qxb6605362aChecked
import GoSem.Claim
import GoSem.ClaimJoined
import GoSem.ClaimMapViews
import Derived.JoinedTies
import Derived.KernelRfl
namespace Go.Proofs.Qxb6605362a
/- THE CELL 'sum', in the pinned program and in every row, IS THE sha256 OF THE DUMP (.gsa) THAT Qxb6605362aProg.lean LOADS. Nothing in Lean hashes anything: it is a label: what it is worth is what the hold of that sum in a sandbox is worth. -/
noncomputable def Try.pinned : Pinned := { name := "qxb6605362a", sum := "73c981688c28fcc4d27b49e16ff81f68c7a99013b13521e9378f7564105cb2ac", checked := Try.checked }
namespace Rows
def none {H : Type} : Left H := { results := [], args := [] }

/-- 'zzlaws_internal_sbi_b1.FnIsUUIDMatchesGroupedForm': WHATEVER THE INPUT: true; the input reads as it did. -/
def fnIsUUIDMatchesGroupedFormSpec : ChangeSpec := { name := "fnIsUUIDMatchesGroupedForm", fn := fun _ => fun
  | [d] => { results := [.lit (.bool true)], args := [d] }
  | _ => none }
def fnIsUUIDMatchesGroupedFormRow : OpenClaim := { program := "qxb6605362a", sum := "73c981688c28fcc4d27b49e16ff81f68c7a99013b13521e9378f7564105cb2ac", func := "example.com/tideline/tideline/zzlaws_internal_sbi_b1.FnIsUUIDMatchesGroupedForm", spec := "fnIsUUIDMatchesGroupedForm", apart := false }
def FnIsUUIDMatchesGroupedFormSaid : Prop := fnIsUUIDMatchesGroupedFormRow.holds Try.pinned (OpenSpec.ofChange fnIsUUIDMatchesGroupedFormSpec)

/-- ITS FALSE NEIGHBOUR: 'it returns false'. Refute it at one input. -/
def fnIsUUIDMatchesGroupedFormWrong : ChangeSpec := { name := "fnIsUUIDMatchesGroupedForm", fn := fun _ => fun
  | [d] => { results := [.lit (.bool false)], args := [d] }
  | _ => none }
def FnIsUUIDMatchesGroupedFormWrongFalsely : Prop := fnIsUUIDMatchesGroupedFormRow.holds Try.pinned (OpenSpec.ofChange fnIsUUIDMatchesGroupedFormWrong)

/-- 'zzlaws_internal_sbi_b1.FnIsUUIDAcceptsEveryRendering': WHATEVER THE INPUT: true; the input reads as it did. -/
def fnIsUUIDAcceptsEveryRenderingSpec : ChangeSpec := { name := "fnIsUUIDAcceptsEveryRendering", fn := fun _ => fun
  | [d1, d2, d3] => { results := [.lit (.bool true)], args := [d1, d2, d3] }
  | _ => none }
def fnIsUUIDAcceptsEveryRenderingRow : OpenClaim := { program := "qxb6605362a", sum := "73c981688c28fcc4d27b49e16ff81f68c7a99013b13521e9378f7564105cb2ac", func := "example.com/tideline/tideline/zzlaws_internal_sbi_b1.FnIsUUIDAcceptsEveryRendering", spec := "fnIsUUIDAcceptsEveryRendering", apart := false }
def FnIsUUIDAcceptsEveryRenderingSaid : Prop := fnIsUUIDAcceptsEveryRenderingRow.holds Try.pinned (OpenSpec.ofChange fnIsUUIDAcceptsEveryRenderingSpec)

/-- ITS FALSE NEIGHBOUR: 'it returns false'. Refute it at one input. -/
def fnIsUUIDAcceptsEveryRenderingWrong : ChangeSpec := { name := "fnIsUUIDAcceptsEveryRendering", fn := fun _ => fun
  | [d1, d2, d3] => { results := [.lit (.bool false)], args := [d1, d2, d3] }
  | _ => none }
def FnIsUUIDAcceptsEveryRenderingWrongFalsely : Prop := fnIsUUIDAcceptsEveryRenderingRow.holds Try.pinned (OpenSpec.ofChange fnIsUUIDAcceptsEveryRenderingWrong)

/-- 'zzlaws_internal_sbi_b1.FnNextFollowsTheSeparator': WHATEVER THE INPUT: true; the input reads as it did. -/
def fnNextFollowsTheSeparatorSpec : ChangeSpec := { name := "fnNextFollowsTheSeparator", fn := fun _ => fun
  | [d1, d2, d3] => { results := [.lit (.bool true)], args := [d1, d2, d3] }
  | _ => none }
def fnNextFollowsTheSeparatorRow : OpenClaim := { program := "qxb6605362a", sum := "73c981688c28fcc4d27b49e16ff81f68c7a99013b13521e9378f7564105cb2ac", func := "example.com/tideline/tideline/zzlaws_internal_sbi_b1.FnNextFollowsTheSeparator", spec := "fnNextFollowsTheSeparator", apart := false }
def FnNextFollowsTheSeparatorSaid : Prop := fnNextFollowsTheSeparatorRow.holds Try.pinned (OpenSpec.ofChange fnNextFollowsTheSeparatorSpec)

/-- ITS FALSE NEIGHBOUR: 'it returns false'. Refute it at one input. -/
def fnNextFollowsTheSeparatorWrong : ChangeSpec := { name := "fnNextFollowsTheSeparator", fn := fun _ => fun
  | [d1, d2, d3] => { results := [.lit (.bool false)], args := [d1, d2, d3] }
  | _ => none }
def FnNextFollowsTheSeparatorWrongFalsely : Prop := fnNextFollowsTheSeparatorRow.holds Try.pinned (OpenSpec.ofChange fnNextFollowsTheSeparatorWrong)

/-- 'zzlaws_internal_sbi_b1.FnValueEndMatchesRecursiveScan': WHATEVER THE INPUT: true; the input reads as it did. -/
def fnValueEndMatchesRecursiveScanSpec : ChangeSpec := { name := "fnValueEndMatchesRecursiveScan", fn := fun _ => fun
  | [d1, d2] => { results := [.lit (.bool true)], args := [d1, d2] }
  | _ => none }
def fnValueEndMatchesRecursiveScanRow : OpenClaim := { program := "qxb6605362a", sum := "73c981688c28fcc4d27b49e16ff81f68c7a99013b13521e9378f7564105cb2ac", func := "example.com/tideline/tideline/zzlaws_internal_sbi_b1.FnValueEndMatchesRecursiveScan", spec := "fnValueEndMatchesRecursiveScan", recurses := true, apart := false }
def FnValueEndMatchesRecursiveScanSaid : Prop := fnValueEndMatchesRecursiveScanRow.holds Try.pinned (OpenSpec.ofChange fnValueEndMatchesRecursiveScanSpec)

/-- ITS FALSE NEIGHBOUR: 'it returns false'. Refute it at one input. -/
def fnValueEndMatchesRecursiveScanWrong : ChangeSpec := { name := "fnValueEndMatchesRecursiveScan", fn := fun _ => fun
  | [d1, d2] => { results := [.lit (.bool false)], args := [d1, d2] }
  | _ => none }
def FnValueEndMatchesRecursiveScanWrongFalsely : Prop := fnValueEndMatchesRecursiveScanRow.holds Try.pinned (OpenSpec.ofChange fnValueEndMatchesRecursiveScanWrong)

end Rows
end Go.Proofs.Qxb6605362a
