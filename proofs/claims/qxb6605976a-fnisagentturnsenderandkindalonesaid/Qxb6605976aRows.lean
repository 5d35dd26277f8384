/-
  No cell of these rows narrows 'for every input' (looked for: loops, veiled, ifaces, maps, wideKeys, modest, calm, conditions, laid).
  DERIVED. THE GIVEN ROWS OF THIS SEAT. 4 by the template 'for every input the law returns true; each argument reads behind the call as it read before'; 0 by the template 'total and deterministic' (their statements: Qxb6605976aTotals.lean).
  GIVEN WITH THE SEED: the statements are not yours to turn. If you find one false, say at which input.
  Laid BY PROGRAM, IN A SANDBOX (cutbox-rows.mjs): the forced cells as the released guide's own fill.sh prints them over the translation e1da60f2725334e2… (all of the seat's roots in one cut). By AI agents, Wed Nov 11 2026. No macro, syntax, notation, axiom, sorry.
-/
import Derived.Test.Qxb6605976aChecked
import GoSem.Claim
import GoSem.ClaimJoined
import GoSem.ClaimMapViews
import Derived.JoinedTies
import Derived.KernelRfl
namespace Go.Proofs.Qxb6605976a
/- THE CELL 'sum', in the pinned program and in every row, IS THE sha256 OF THE DUMP (.gsa) THAT Qxb6605976aProg.lean LOADS. Nothing in Lean hashes anything: it is a label: what it is worth is what the hold of that sum in a sandbox is worth. -/
noncomputable def Try.pinned : Pinned := { name := "qxb6605976a", sum := "e1da60f2725334e2de9bf88d6d71158f1741b442e602c56706d6ab4d5246a008", checked := Try.checked }
namespace Rows
def none {H : Type} : Left H := { results := [], args := [] }

/-- 'zzlaws_internal_engine_b1.FnMatchPartExactGlob': WHATEVER THE INPUT: true; the input reads as it did. -/
def fnMatchPartExactGlobSpec : ChangeSpec := { name := "fnMatchPartExactGlob", fn := fun _ => fun
  | [d1, d2] => { results := [.lit (.bool true)], args := [d1, d2] }
  | _ => none }
def fnMatchPartExactGlobRow : OpenClaim := { program := "qxb6605976a", sum := "e1da60f2725334e2de9bf88d6d71158f1741b442e602c56706d6ab4d5246a008", func := "example.com/sprinthall/sprinthall/zzlaws_internal_engine_b1.FnMatchPartExactGlob", spec := "fnMatchPartExactGlob", inPlace := ["internal/bytealg.IndexByteString", "internal/bytealg.IndexString"], recurses := true, named := ["internal/bytealg.MaxLen"], apart := false }
def FnMatchPartExactGlobSaid : Prop := fnMatchPartExactGlobRow.holds Try.pinned (OpenSpec.ofChange fnMatchPartExactGlobSpec)

/-- ITS FALSE NEIGHBOUR: 'it returns false'. Refute it at one input. -/
def fnMatchPartExactGlobWrong : ChangeSpec := { name := "fnMatchPartExactGlob", fn := fun _ => fun
  | [d1, d2] => { results := [.lit (.bool false)], args := [d1, d2] }
  | _ => none }
def FnMatchPartExactGlobWrongFalsely : Prop := fnMatchPartExactGlobRow.holds Try.pinned (OpenSpec.ofChange fnMatchPartExactGlobWrong)

/-- 'zzlaws_internal_engine_b1.FnMatchPartSelfAndStarWidening': WHATEVER THE INPUT: true; the input reads as it did. -/
def fnMatchPartSelfAndStarWideningSpec : ChangeSpec := { name := "fnMatchPartSelfAndStarWidening", fn := fun _ => fun
  | [d1, d2, d3] => { results := [.lit (.bool true)], args := [d1, d2, d3] }
  | _ => none }
def fnMatchPartSelfAndStarWideningRow : OpenClaim := { program := "qxb6605976a", sum := "e1da60f2725334e2de9bf88d6d71158f1741b442e602c56706d6ab4d5246a008", func := "example.com/sprinthall/sprinthall/zzlaws_internal_engine_b1.FnMatchPartSelfAndStarWidening", spec := "fnMatchPartSelfAndStarWidening", inPlace := ["internal/bytealg.IndexByteString", "internal/bytealg.IndexString"], recurses := true, named := ["internal/bytealg.MaxLen"], apart := false }
def FnMatchPartSelfAndStarWideningSaid : Prop := fnMatchPartSelfAndStarWideningRow.holds Try.pinned (OpenSpec.ofChange fnMatchPartSelfAndStarWideningSpec)

/-- ITS FALSE NEIGHBOUR: 'it returns false'. Refute it at one input. -/
def fnMatchPartSelfAndStarWideningWrong : ChangeSpec := { name := "fnMatchPartSelfAndStarWidening", fn := fun _ => fun
  | [d1, d2, d3] => { results := [.lit (.bool false)], args := [d1, d2, d3] }
  | _ => none }
def FnMatchPartSelfAndStarWideningWrongFalsely : Prop := fnMatchPartSelfAndStarWideningRow.holds Try.pinned (OpenSpec.ofChange fnMatchPartSelfAndStarWideningWrong)

/-- 'zzlaws_internal_engine_b1.FnIsAgentTurnByRole': WHATEVER THE INPUT: true; the input reads as it did. -/
def fnIsAgentTurnByRoleSpec : ChangeSpec := { name := "fnIsAgentTurnByRole", fn := fun _ => fun
  | [d1, d2, d3, d4, d5, d6, d7, d8] => { results := [.lit (.bool true)], args := [d1, d2, d3, d4, d5, d6, d7, d8] }
  | _ => none }
def fnIsAgentTurnByRoleRow : OpenClaim := { program := "qxb6605976a", sum := "e1da60f2725334e2de9bf88d6d71158f1741b442e602c56706d6ab4d5246a008", func := "example.com/sprinthall/sprinthall/zzlaws_internal_engine_b1.FnIsAgentTurnByRole", spec := "fnIsAgentTurnByRole", apart := false }
def FnIsAgentTurnByRoleSaid : Prop := fnIsAgentTurnByRoleRow.holds Try.pinned (OpenSpec.ofChange fnIsAgentTurnByRoleSpec)

/-- ITS FALSE NEIGHBOUR: 'it returns false'. Refute it at one input. -/
def fnIsAgentTurnByRoleWrong : ChangeSpec := { name := "fnIsAgentTurnByRole", fn := fun _ => fun
  | [d1, d2, d3, d4, d5, d6, d7, d8] => { results := [.lit (.bool false)], args := [d1, d2, d3, d4, d5, d6, d7, d8] }
  | _ => none }
def FnIsAgentTurnByRoleWrongFalsely : Prop := fnIsAgentTurnByRoleRow.holds Try.pinned (OpenSpec.ofChange fnIsAgentTurnByRoleWrong)

/-- 'zzlaws_internal_engine_b1.FnIsAgentTurnSenderAndKindAlone': WHATEVER THE INPUT: true; the input reads as it did. -/
def fnIsAgentTurnSenderAndKindAloneSpec : ChangeSpec := { name := "fnIsAgentTurnSenderAndKindAlone", fn := fun _ => fun
  | [d1, d2, d3, d4, d5, d6, d7, d8, d9] => { results := [.lit (.bool true)], args := [d1, d2, d3, d4, d5, d6, d7, d8, d9] }
  | _ => none }
def fnIsAgentTurnSenderAndKindAloneRow : OpenClaim := { program := "qxb6605976a", sum := "e1da60f2725334e2de9bf88d6d71158f1741b442e602c56706d6ab4d5246a008", func := "example.com/sprinthall/sprinthall/zzlaws_internal_engine_b1.FnIsAgentTurnSenderAndKindAlone", spec := "fnIsAgentTurnSenderAndKindAlone", apart := false }
def FnIsAgentTurnSenderAndKindAloneSaid : Prop := fnIsAgentTurnSenderAndKindAloneRow.holds Try.pinned (OpenSpec.ofChange fnIsAgentTurnSenderAndKindAloneSpec)

/-- ITS FALSE NEIGHBOUR: 'it returns false'. Refute it at one input. -/
def fnIsAgentTurnSenderAndKindAloneWrong : ChangeSpec := { name := "fnIsAgentTurnSenderAndKindAlone", fn := fun _ => fun
  | [d1, d2, d3, d4, d5, d6, d7, d8, d9] => { results := [.lit (.bool false)], args := [d1, d2, d3, d4, d5, d6, d7, d8, d9] }
  | _ => none }
def FnIsAgentTurnSenderAndKindAloneWrongFalsely : Prop := fnIsAgentTurnSenderAndKindAloneRow.holds Try.pinned (OpenSpec.ofChange fnIsAgentTurnSenderAndKindAloneWrong)

end Rows
end Go.Proofs.Qxb6605976a
