/-
  No cell of these rows narrows 'for every input' (looked for: loops, veiled, ifaces, maps, wideKeys, modest, calm, conditions, laid).
  DERIVED. THE GIVEN ROWS OF THIS SEAT. 1 by the template 'for every input the law returns true; each argument reads behind the call as it read before'; 0 by the template 'total and deterministic' (their statements: Qxb6002390aTotals.lean).
  GIVEN WITH THE SEED: the statements are not yours to turn. If you find one false, say at which input.
  Laid BY PROGRAM, IN A SANDBOX (cutbox-rows.mjs): the forced cells as the released guide's own fill.sh prints them over the translation 279e4498e07956b9… (all of the seat's roots in one cut). By AI agents, Wed Nov 11 2026. No macro, syntax, notation, axiom, sorry.
-/
import Derived.Test.Qxb6002390aChecked
import GoSem.Claim
import GoSem.ClaimJoined
import GoSem.ClaimMapViews
import Derived.JoinedTies
import Derived.KernelRfl
namespace Go.Proofs.Qxb6002390a
/- THE CELL 'sum', in the pinned program and in every row, IS THE sha256 OF THE DUMP (.gsa) THAT Qxb6002390aProg.lean LOADS. Nothing in Lean hashes anything: it is a label: what it is worth is what the hold of that sum in a sandbox is worth. -/
noncomputable def Try.pinned : Pinned := { name := "qxb6002390a", sum := "279e4498e07956b90d6e1f42dc91a9f1b5b8b6eab29724ca4d513152521af824", checked := Try.checked }
namespace Rows
def none {H : Type} : Left H := { results := [], args := [] }

/-- 'zzlaws_internal_service_g1.FnLineCounterChunkingAgrees': WHATEVER THE INPUT: true; the input reads as it did. -/
def fnLineCounterChunkingAgreesSpec : ChangeSpec := { name := "fnLineCounterChunkingAgrees", fn := fun _ => fun
  | [d1, d2, d3] => { results := [.lit (.bool true)], args := [d1, d2, d3] }
  | _ => none }
def fnLineCounterChunkingAgreesRow : OpenClaim := { program := "qxb6002390a", sum := "279e4498e07956b90d6e1f42dc91a9f1b5b8b6eab29724ca4d513152521af824", func := "example.com/resolvent/resolvent/zzlaws_internal_service_g1.FnLineCounterChunkingAgrees", spec := "fnLineCounterChunkingAgrees", inPlace := ["internal/bytealg.Count", "internal/bytealg.IndexByte", "internal/bytealg.Index"], named := ["internal/bytealg.MaxLen"], apart := false }
def FnLineCounterChunkingAgreesSaid : Prop := fnLineCounterChunkingAgreesRow.holds Try.pinned (OpenSpec.ofChange fnLineCounterChunkingAgreesSpec)

/-- ITS FALSE NEIGHBOUR: 'it returns false'. Refute it at one input. -/
def fnLineCounterChunkingAgreesWrong : ChangeSpec := { name := "fnLineCounterChunkingAgrees", fn := fun _ => fun
  | [d1, d2, d3] => { results := [.lit (.bool false)], args := [d1, d2, d3] }
  | _ => none }
def FnLineCounterChunkingAgreesWrongFalsely : Prop := fnLineCounterChunkingAgreesRow.holds Try.pinned (OpenSpec.ofChange fnLineCounterChunkingAgreesWrong)

end Rows
end Go.Proofs.Qxb6002390a
