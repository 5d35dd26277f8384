/-
  No cell of these rows narrows 'for every input' (looked for: loops, veiled, ifaces, maps, wideKeys, modest, calm, conditions, laid).
  DERIVED. THE GIVEN ROWS OF THIS SEAT. 1 by the template 'for every input the law returns true; each argument reads behind the call as it read before'; 0 by the template 'total and deterministic' (their statements: Qxb6612920aTotals.lean).
  GIVEN WITH THE SEED: the statements are not yours to turn. If you find one false, say at which input.
  Laid BY PROGRAM, IN A SANDBOX (cutbox-rows.mjs): the forced cells as the released guide's own fill.sh prints them over the translation e5e6478637c6824c… (all of the seat's roots in one cut). By AI agents, Wed Nov 11 2026. No macro, syntax, notation, axiom, sorry.
-/
import Derived.Test.Qxb6612920aChecked
import GoSem.Claim
import GoSem.ClaimJoined
import GoSem.ClaimMapViews
import Derived.JoinedTies
import Derived.KernelRfl
namespace Go.Proofs.Qxb6612920a
/- THE CELL 'sum', in the pinned program and in every row, IS THE sha256 OF THE DUMP (.gsa) THAT Qxb6612920aProg.lean LOADS. Nothing in Lean hashes anything: it is a label: what it is worth is what the hold of that sum in a sandbox is worth. -/
noncomputable def Try.pinned : Pinned := { name := "qxb6612920a", sum := "e5e6478637c6824cddd024ceab693c3e16180053c774ca58c812193a0979b6c0", checked := Try.checked }
namespace Rows
def none {H : Type} : Left H := { results := [], args := [] }

/-- 'zzlaws_pkg_trace_b1.FnTraceSprayObjectsAreIndependent': WHATEVER THE INPUT: true; the input reads as it did. -/
def fnTraceSprayObjectsAreIndependentSpec : ChangeSpec := { name := "fnTraceSprayObjectsAreIndependent", fn := fun _ => fun
  | [d1, d2, d3, d4, d5, d6, d7, d8, d9, d10, d11, d12] => { results := [.lit (.bool true)], args := [d1, d2, d3, d4, d5, d6, d7, d8, d9, d10, d11, d12] }
  | _ => none }
def fnTraceSprayObjectsAreIndependentRow : OpenClaim := { program := "qxb6612920a", sum := "e5e6478637c6824cddd024ceab693c3e16180053c774ca58c812193a0979b6c0", func := "example.com/cairnmesh/cairnmesh/zzlaws_pkg_trace_b1.FnTraceSprayObjectsAreIndependent", spec := "fnTraceSprayObjectsAreIndependent", unfollowed := true, recurses := true, apart := false }
def FnTraceSprayObjectsAreIndependentSaid : Prop := fnTraceSprayObjectsAreIndependentRow.holds Try.pinned (OpenSpec.ofChange fnTraceSprayObjectsAreIndependentSpec)

/-- ITS FALSE NEIGHBOUR: 'it returns false'. Refute it at one input. -/
def fnTraceSprayObjectsAreIndependentWrong : ChangeSpec := { name := "fnTraceSprayObjectsAreIndependent", fn := fun _ => fun
  | [d1, d2, d3, d4, d5, d6, d7, d8, d9, d10, d11, d12] => { results := [.lit (.bool false)], args := [d1, d2, d3, d4, d5, d6, d7, d8, d9, d10, d11, d12] }
  | _ => none }
def FnTraceSprayObjectsAreIndependentWrongFalsely : Prop := fnTraceSprayObjectsAreIndependentRow.holds Try.pinned (OpenSpec.ofChange fnTraceSprayObjectsAreIndependentWrong)

end Rows
end Go.Proofs.Qxb6612920a
