/-
  No cell of these rows narrows 'for every input' (looked for: loops, veiled, ifaces, maps, wideKeys, modest, calm, conditions, laid).
  DERIVED. THE GIVEN ROWS OF THIS SEAT. 3 by the template 'for every input the law returns true; each argument reads behind the call as it read before'; 0 by the template 'total and deterministic' (their statements: Qxb6608521aTotals.lean).
  GIVEN WITH THE SEED: the statements are not yours to turn. If you find one false, say at which input.
  Laid BY PROGRAM, IN A SANDBOX (cutbox-rows.mjs): the forced cells as the released guide's own fill.sh prints them over the translation 322b49b309f9c820… (all of the seat's roots in one cut). By AI agents, Wed Nov 11 2026. No macro, syntax, notation, axiom, sorry.
-/
import Derived.Test.Qxb6608521aChecked
import GoSem.Claim
import GoSem.ClaimJoined
import GoSem.ClaimMapViews
import Derived.JoinedTies
import Derived.KernelRfl
namespace Go.Proofs.Qxb6608521a
/- THE CELL 'sum', in the pinned program and in every row, IS THE sha256 OF THE DUMP (.gsa) THAT Qxb6608521aProg.lean LOADS. Nothing in Lean hashes anything: it is a label: what it is worth is what the hold of that sum in a sandbox is worth. -/
noncomputable def Try.pinned : Pinned := { name := "qxb6608521a", sum := "322b49b309f9c820d16a8b5ddf4834c6d1e969bb896ef79e62762df091cca13b", checked := Try.checked }
namespace Rows
def none {H : Type} : Left H := { results := [], args := [] }

/-- 'zzlaws_internal_store_b1.FnLiveUntilOneTermExactlyWhenBalanced': WHATEVER THE INPUT: true; the input reads as it did. -/
def fnLiveUntilOneTermExactlyWhenBalancedSpec : ChangeSpec := { name := "fnLiveUntilOneTermExactlyWhenBalanced", fn := fun _ => fun
  | [d1, d2] => { results := [.lit (.bool true)], args := [d1, d2] }
  | _ => none }
def fnLiveUntilOneTermExactlyWhenBalancedRow : OpenClaim := { program := "qxb6608521a", sum := "322b49b309f9c820d16a8b5ddf4834c6d1e969bb896ef79e62762df091cca13b", func := "example.com/plinth-store/plinth-store/zzlaws_internal_store_b1.FnLiveUntilOneTermExactlyWhenBalanced", spec := "fnLiveUntilOneTermExactlyWhenBalanced", apart := false }
def FnLiveUntilOneTermExactlyWhenBalancedSaid : Prop := fnLiveUntilOneTermExactlyWhenBalancedRow.holds Try.pinned (OpenSpec.ofChange fnLiveUntilOneTermExactlyWhenBalancedSpec)

/-- ITS FALSE NEIGHBOUR: 'it returns false'. Refute it at one input. -/
def fnLiveUntilOneTermExactlyWhenBalancedWrong : ChangeSpec := { name := "fnLiveUntilOneTermExactlyWhenBalanced", fn := fun _ => fun
  | [d1, d2] => { results := [.lit (.bool false)], args := [d1, d2] }
  | _ => none }
def FnLiveUntilOneTermExactlyWhenBalancedWrongFalsely : Prop := fnLiveUntilOneTermExactlyWhenBalancedRow.holds Try.pinned (OpenSpec.ofChange fnLiveUntilOneTermExactlyWhenBalancedWrong)

/-- 'zzlaws_internal_store_b1.FnNotKeptOneTermExactlyWhenBalanced': WHATEVER THE INPUT: true; the input reads as it did. -/
def fnNotKeptOneTermExactlyWhenBalancedSpec : ChangeSpec := { name := "fnNotKeptOneTermExactlyWhenBalanced", fn := fun _ => fun
  | [d1, d2] => { results := [.lit (.bool true)], args := [d1, d2] }
  | _ => none }
def fnNotKeptOneTermExactlyWhenBalancedRow : OpenClaim := { program := "qxb6608521a", sum := "322b49b309f9c820d16a8b5ddf4834c6d1e969bb896ef79e62762df091cca13b", func := "example.com/plinth-store/plinth-store/zzlaws_internal_store_b1.FnNotKeptOneTermExactlyWhenBalanced", spec := "fnNotKeptOneTermExactlyWhenBalanced", apart := false }
def FnNotKeptOneTermExactlyWhenBalancedSaid : Prop := fnNotKeptOneTermExactlyWhenBalancedRow.holds Try.pinned (OpenSpec.ofChange fnNotKeptOneTermExactlyWhenBalancedSpec)

/-- ITS FALSE NEIGHBOUR: 'it returns false'. Refute it at one input. -/
def fnNotKeptOneTermExactlyWhenBalancedWrong : ChangeSpec := { name := "fnNotKeptOneTermExactlyWhenBalanced", fn := fun _ => fun
  | [d1, d2] => { results := [.lit (.bool false)], args := [d1, d2] }
  | _ => none }
def FnNotKeptOneTermExactlyWhenBalancedWrongFalsely : Prop := fnNotKeptOneTermExactlyWhenBalancedRow.holds Try.pinned (OpenSpec.ofChange fnNotKeptOneTermExactlyWhenBalancedWrong)

/-- 'zzlaws_internal_store_b1.FnPutRowsNamesTwoToSixThenMore': WHATEVER THE INPUT: true; the input reads as it did. -/
def fnPutRowsNamesTwoToSixThenMoreSpec : ChangeSpec := { name := "fnPutRowsNamesTwoToSixThenMore", fn := fun _ => fun
  | [d] => { results := [.lit (.bool true)], args := [d] }
  | _ => none }
def fnPutRowsNamesTwoToSixThenMoreRow : OpenClaim := { program := "qxb6608521a", sum := "322b49b309f9c820d16a8b5ddf4834c6d1e969bb896ef79e62762df091cca13b", func := "example.com/plinth-store/plinth-store/zzlaws_internal_store_b1.FnPutRowsNamesTwoToSixThenMore", spec := "fnPutRowsNamesTwoToSixThenMore", apart := false }
def FnPutRowsNamesTwoToSixThenMoreSaid : Prop := fnPutRowsNamesTwoToSixThenMoreRow.holds Try.pinned (OpenSpec.ofChange fnPutRowsNamesTwoToSixThenMoreSpec)

/-- ITS FALSE NEIGHBOUR: 'it returns false'. Refute it at one input. -/
def fnPutRowsNamesTwoToSixThenMoreWrong : ChangeSpec := { name := "fnPutRowsNamesTwoToSixThenMore", fn := fun _ => fun
  | [d] => { results := [.lit (.bool false)], args := [d] }
  | _ => none }
def FnPutRowsNamesTwoToSixThenMoreWrongFalsely : Prop := fnPutRowsNamesTwoToSixThenMoreRow.holds Try.pinned (OpenSpec.ofChange fnPutRowsNamesTwoToSixThenMoreWrong)

end Rows
end Go.Proofs.Qxb6608521a
