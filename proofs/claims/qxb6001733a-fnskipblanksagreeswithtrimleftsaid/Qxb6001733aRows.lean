/-
  No cell of these rows narrows 'for every input' (looked for: loops, veiled, ifaces, maps, wideKeys, modest, calm, conditions, laid).
  DERIVED. THE GIVEN ROWS OF THIS SEAT. 5 by the template 'for every input the law returns true; each argument reads behind the call as it read before'; 0 by the template 'total and deterministic' (their statements: Qxb6001733aTotals.lean).
  GIVEN WITH THE SEED: the statements are not yours to turn. If you find one false, say at which input.
  Laid BY PROGRAM, IN A SANDBOX (cutbox-rows.mjs): the forced cells as the released guide's own fill.sh prints them over the translation 4905bdcae9ac10e1… (all of the seat's roots in one cut). By AI agents, Wed Nov 11 2026. No macro, syntax, notation, axiom, sorry.
-/
import Derived.Test.Qxb6001733aChecked
import GoSem.Claim
import GoSem.ClaimJoined
import GoSem.ClaimMapViews
import Derived.JoinedTies
import Derived.KernelRfl
namespace Go.Proofs.Qxb6001733a
/- THE CELL 'sum', in the pinned program and in every row, IS THE sha256 OF THE DUMP (.gsa) THAT Qxb6001733aProg.lean LOADS. Nothing in Lean hashes anything: it is a label: what it is worth is what the hold of that sum in a sandbox is worth. -/
noncomputable def Try.pinned : Pinned := { name := "qxb6001733a", sum := "4905bdcae9ac10e14ee0b5ba6677d9145a1404ae73b552a5eb5988cfeb4f41f9", checked := Try.checked }
namespace Rows
def none {H : Type} : Left H := { results := [], args := [] }

/-- 'zzlaws_pkg_plan_b1.FnSkipBlanksSpec': WHATEVER THE INPUT: true; the input reads as it did. -/
def fnSkipBlanksSpecSpec : ChangeSpec := { name := "fnSkipBlanksSpec", fn := fun _ => fun
  | [d1, d2] => { results := [.lit (.bool true)], args := [d1, d2] }
  | _ => none }
def fnSkipBlanksSpecRow : OpenClaim := { program := "qxb6001733a", sum := "4905bdcae9ac10e14ee0b5ba6677d9145a1404ae73b552a5eb5988cfeb4f41f9", func := "example.com/vestledger/vestledger/zzlaws_pkg_plan_b1.FnSkipBlanksSpec", spec := "fnSkipBlanksSpec", apart := false }
def FnSkipBlanksSpecSaid : Prop := fnSkipBlanksSpecRow.holds Try.pinned (OpenSpec.ofChange fnSkipBlanksSpecSpec)

/-- ITS FALSE NEIGHBOUR: 'it returns false'. Refute it at one input. -/
def fnSkipBlanksSpecWrong : ChangeSpec := { name := "fnSkipBlanksSpec", fn := fun _ => fun
  | [d1, d2] => { results := [.lit (.bool false)], args := [d1, d2] }
  | _ => none }
def FnSkipBlanksSpecWrongFalsely : Prop := fnSkipBlanksSpecRow.holds Try.pinned (OpenSpec.ofChange fnSkipBlanksSpecWrong)

/-- 'zzlaws_pkg_plan_b1.FnSkipBlanksMonotoneIdempotent': WHATEVER THE INPUT: true; the input reads as it did. -/
def fnSkipBlanksMonotoneIdempotentSpec : ChangeSpec := { name := "fnSkipBlanksMonotoneIdempotent", fn := fun _ => fun
  | [d1, d2, d3] => { results := [.lit (.bool true)], args := [d1, d2, d3] }
  | _ => none }
def fnSkipBlanksMonotoneIdempotentRow : OpenClaim := { program := "qxb6001733a", sum := "4905bdcae9ac10e14ee0b5ba6677d9145a1404ae73b552a5eb5988cfeb4f41f9", func := "example.com/vestledger/vestledger/zzlaws_pkg_plan_b1.FnSkipBlanksMonotoneIdempotent", spec := "fnSkipBlanksMonotoneIdempotent", apart := false }
def FnSkipBlanksMonotoneIdempotentSaid : Prop := fnSkipBlanksMonotoneIdempotentRow.holds Try.pinned (OpenSpec.ofChange fnSkipBlanksMonotoneIdempotentSpec)

/-- ITS FALSE NEIGHBOUR: 'it returns false'. Refute it at one input. -/
def fnSkipBlanksMonotoneIdempotentWrong : ChangeSpec := { name := "fnSkipBlanksMonotoneIdempotent", fn := fun _ => fun
  | [d1, d2, d3] => { results := [.lit (.bool false)], args := [d1, d2, d3] }
  | _ => none }
def FnSkipBlanksMonotoneIdempotentWrongFalsely : Prop := fnSkipBlanksMonotoneIdempotentRow.holds Try.pinned (OpenSpec.ofChange fnSkipBlanksMonotoneIdempotentWrong)

/-- 'zzlaws_pkg_plan_b1.FnSkipBlanksAgreesWithTrimLeft': WHATEVER THE INPUT: true; the input reads as it did. -/
def fnSkipBlanksAgreesWithTrimLeftSpec : ChangeSpec := { name := "fnSkipBlanksAgreesWithTrimLeft", fn := fun _ => fun
  | [d1, d2] => { results := [.lit (.bool true)], args := [d1, d2] }
  | _ => none }
def fnSkipBlanksAgreesWithTrimLeftRow : OpenClaim := { program := "qxb6001733a", sum := "4905bdcae9ac10e14ee0b5ba6677d9145a1404ae73b552a5eb5988cfeb4f41f9", func := "example.com/vestledger/vestledger/zzlaws_pkg_plan_b1.FnSkipBlanksAgreesWithTrimLeft", spec := "fnSkipBlanksAgreesWithTrimLeft", inPlace := ["internal/bytealg.IndexByteString", "internal/bytealg.IndexString"], named := ["internal/bytealg.MaxLen"], apart := false }
def FnSkipBlanksAgreesWithTrimLeftSaid : Prop := fnSkipBlanksAgreesWithTrimLeftRow.holds Try.pinned (OpenSpec.ofChange fnSkipBlanksAgreesWithTrimLeftSpec)

/-- ITS FALSE NEIGHBOUR: 'it returns false'. Refute it at one input. -/
def fnSkipBlanksAgreesWithTrimLeftWrong : ChangeSpec := { name := "fnSkipBlanksAgreesWithTrimLeft", fn := fun _ => fun
  | [d1, d2] => { results := [.lit (.bool false)], args := [d1, d2] }
  | _ => none }
def FnSkipBlanksAgreesWithTrimLeftWrongFalsely : Prop := fnSkipBlanksAgreesWithTrimLeftRow.holds Try.pinned (OpenSpec.ofChange fnSkipBlanksAgreesWithTrimLeftWrong)

/-- 'zzlaws_pkg_plan_b1.FnTrimLeftSpec': WHATEVER THE INPUT: true; the input reads as it did. -/
def fnTrimLeftSpecSpec : ChangeSpec := { name := "fnTrimLeftSpec", fn := fun _ => fun
  | [d1, d2] => { results := [.lit (.bool true)], args := [d1, d2] }
  | _ => none }
def fnTrimLeftSpecRow : OpenClaim := { program := "qxb6001733a", sum := "4905bdcae9ac10e14ee0b5ba6677d9145a1404ae73b552a5eb5988cfeb4f41f9", func := "example.com/vestledger/vestledger/zzlaws_pkg_plan_b1.FnTrimLeftSpec", spec := "fnTrimLeftSpec", inPlace := ["internal/bytealg.IndexByteString", "internal/bytealg.IndexString"], named := ["internal/bytealg.MaxLen"], apart := false }
def FnTrimLeftSpecSaid : Prop := fnTrimLeftSpecRow.holds Try.pinned (OpenSpec.ofChange fnTrimLeftSpecSpec)

/-- ITS FALSE NEIGHBOUR: 'it returns false'. Refute it at one input. -/
def fnTrimLeftSpecWrong : ChangeSpec := { name := "fnTrimLeftSpec", fn := fun _ => fun
  | [d1, d2] => { results := [.lit (.bool false)], args := [d1, d2] }
  | _ => none }
def FnTrimLeftSpecWrongFalsely : Prop := fnTrimLeftSpecRow.holds Try.pinned (OpenSpec.ofChange fnTrimLeftSpecWrong)

/-- 'zzlaws_pkg_plan_b1.FnTrimLeftIdempotent': WHATEVER THE INPUT: true; the input reads as it did. -/
def fnTrimLeftIdempotentSpec : ChangeSpec := { name := "fnTrimLeftIdempotent", fn := fun _ => fun
  | [d1, d2] => { results := [.lit (.bool true)], args := [d1, d2] }
  | _ => none }
def fnTrimLeftIdempotentRow : OpenClaim := { program := "qxb6001733a", sum := "4905bdcae9ac10e14ee0b5ba6677d9145a1404ae73b552a5eb5988cfeb4f41f9", func := "example.com/vestledger/vestledger/zzlaws_pkg_plan_b1.FnTrimLeftIdempotent", spec := "fnTrimLeftIdempotent", inPlace := ["internal/bytealg.IndexByteString", "internal/bytealg.IndexString"], named := ["internal/bytealg.MaxLen"], apart := false }
def FnTrimLeftIdempotentSaid : Prop := fnTrimLeftIdempotentRow.holds Try.pinned (OpenSpec.ofChange fnTrimLeftIdempotentSpec)

/-- ITS FALSE NEIGHBOUR: 'it returns false'. Refute it at one input. -/
def fnTrimLeftIdempotentWrong : ChangeSpec := { name := "fnTrimLeftIdempotent", fn := fun _ => fun
  | [d1, d2] => { results := [.lit (.bool false)], args := [d1, d2] }
  | _ => none }
def FnTrimLeftIdempotentWrongFalsely : Prop := fnTrimLeftIdempotentRow.holds Try.pinned (OpenSpec.ofChange fnTrimLeftIdempotentWrong)

end Rows
end Go.Proofs.Qxb6001733a
