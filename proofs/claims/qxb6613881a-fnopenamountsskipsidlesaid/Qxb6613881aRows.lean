/-
  No cell of these rows narrows 'for every input' (looked for: loops, veiled, ifaces, maps, wideKeys, modest, calm, conditions, laid).
  DERIVED. THE GIVEN ROWS OF THIS SEAT. 4 by the template 'for every input the law returns true; each argument reads behind the call as it read before'; 0 by the template 'total and deterministic' (their statements: Qxb6613881aTotals.lean).
  GIVEN WITH THE SEED: the statements are not yours to turn. If you find one false, say at which input.
  Laid BY PROGRAM, IN A SANDBOX (cutbox-rows.mjs): the forced cells as the released guide's own fill.sh prints them over the translation 07854fa781d57c7e… (all of the seat's roots in one cut). By AI agents, Wed Nov 11 2026. No macro, syntax, notation, axiom, sorry.
-/
import Derived.Test.Qxb6613881aChecked
import GoSem.Claim
import GoSem.ClaimJoined
import GoSem.ClaimMapViews
import Derived.JoinedTies
import Derived.KernelRfl
namespace Go.Proofs.Qxb6613881a
/- THE CELL 'sum', in the pinned program and in every row, IS THE sha256 OF THE DUMP (.gsa) THAT Qxb6613881aProg.lean LOADS. Nothing in Lean hashes anything: it is a label: what it is worth is what the hold of that sum in a sandbox is worth. -/
noncomputable def Try.pinned : Pinned := { name := "qxb6613881a", sum := "07854fa781d57c7e75569533aad7dde34e46bcc22590f3f65a54e132a8c7a5fd", checked := Try.checked }
namespace Rows
def none {H : Type} : Left H := { results := [], args := [] }

/-- 'zzlaws_root_b1.FnOpenAmountsCut': WHATEVER THE INPUT: true; the input reads as it did. -/
def fnOpenAmountsCutSpec : ChangeSpec := { name := "fnOpenAmountsCut", fn := fun _ => fun
  | [d1, d2] => { results := [.lit (.bool true)], args := [d1, d2] }
  | _ => none }
def fnOpenAmountsCutRow : OpenClaim := { program := "qxb6613881a", sum := "07854fa781d57c7e75569533aad7dde34e46bcc22590f3f65a54e132a8c7a5fd", func := "example.com/numalign/numalign/zzlaws_root_b1.FnOpenAmountsCut", spec := "fnOpenAmountsCut", unfollowed := true, recurses := true, apart := false }
def FnOpenAmountsCutSaid : Prop := fnOpenAmountsCutRow.holds Try.pinned (OpenSpec.ofChange fnOpenAmountsCutSpec)

/-- ITS FALSE NEIGHBOUR: 'it returns false'. Refute it at one input. -/
def fnOpenAmountsCutWrong : ChangeSpec := { name := "fnOpenAmountsCut", fn := fun _ => fun
  | [d1, d2] => { results := [.lit (.bool false)], args := [d1, d2] }
  | _ => none }
def FnOpenAmountsCutWrongFalsely : Prop := fnOpenAmountsCutRow.holds Try.pinned (OpenSpec.ofChange fnOpenAmountsCutWrong)

/-- 'zzlaws_root_b1.FnOpenAmountsSkipsIdle': WHATEVER THE INPUT: true; the input reads as it did. -/
def fnOpenAmountsSkipsIdleSpec : ChangeSpec := { name := "fnOpenAmountsSkipsIdle", fn := fun _ => fun
  | [d1, d2, d3] => { results := [.lit (.bool true)], args := [d1, d2, d3] }
  | _ => none }
def fnOpenAmountsSkipsIdleRow : OpenClaim := { program := "qxb6613881a", sum := "07854fa781d57c7e75569533aad7dde34e46bcc22590f3f65a54e132a8c7a5fd", func := "example.com/numalign/numalign/zzlaws_root_b1.FnOpenAmountsSkipsIdle", spec := "fnOpenAmountsSkipsIdle", unfollowed := true, recurses := true, apart := false }
def FnOpenAmountsSkipsIdleSaid : Prop := fnOpenAmountsSkipsIdleRow.holds Try.pinned (OpenSpec.ofChange fnOpenAmountsSkipsIdleSpec)

/-- ITS FALSE NEIGHBOUR: 'it returns false'. Refute it at one input. -/
def fnOpenAmountsSkipsIdleWrong : ChangeSpec := { name := "fnOpenAmountsSkipsIdle", fn := fun _ => fun
  | [d1, d2, d3] => { results := [.lit (.bool false)], args := [d1, d2, d3] }
  | _ => none }
def FnOpenAmountsSkipsIdleWrongFalsely : Prop := fnOpenAmountsSkipsIdleRow.holds Try.pinned (OpenSpec.ofChange fnOpenAmountsSkipsIdleWrong)

/-- 'zzlaws_root_b1.FnHighestForcedIsHighestBelow': WHATEVER THE INPUT: true; the input reads as it did. -/
def fnHighestForcedIsHighestBelowSpec : ChangeSpec := { name := "fnHighestForcedIsHighestBelow", fn := fun _ => fun
  | [d1, d2, d3, d4] => { results := [.lit (.bool true)], args := [d1, d2, d3, d4] }
  | _ => none }
def fnHighestForcedIsHighestBelowRow : OpenClaim := { program := "qxb6613881a", sum := "07854fa781d57c7e75569533aad7dde34e46bcc22590f3f65a54e132a8c7a5fd", func := "example.com/numalign/numalign/zzlaws_root_b1.FnHighestForcedIsHighestBelow", spec := "fnHighestForcedIsHighestBelow", apart := false }
def FnHighestForcedIsHighestBelowSaid : Prop := fnHighestForcedIsHighestBelowRow.holds Try.pinned (OpenSpec.ofChange fnHighestForcedIsHighestBelowSpec)

/-- ITS FALSE NEIGHBOUR: 'it returns false'. Refute it at one input. -/
def fnHighestForcedIsHighestBelowWrong : ChangeSpec := { name := "fnHighestForcedIsHighestBelow", fn := fun _ => fun
  | [d1, d2, d3, d4] => { results := [.lit (.bool false)], args := [d1, d2, d3, d4] }
  | _ => none }
def FnHighestForcedIsHighestBelowWrongFalsely : Prop := fnHighestForcedIsHighestBelowRow.holds Try.pinned (OpenSpec.ofChange fnHighestForcedIsHighestBelowWrong)

/-- 'zzlaws_root_b1.FnHighestForcedTakingOneMore': WHATEVER THE INPUT: true; the input reads as it did. -/
def fnHighestForcedTakingOneMoreSpec : ChangeSpec := { name := "fnHighestForcedTakingOneMore", fn := fun _ => fun
  | [d1, d2, d3, d4] => { results := [.lit (.bool true)], args := [d1, d2, d3, d4] }
  | _ => none }
def fnHighestForcedTakingOneMoreRow : OpenClaim := { program := "qxb6613881a", sum := "07854fa781d57c7e75569533aad7dde34e46bcc22590f3f65a54e132a8c7a5fd", func := "example.com/numalign/numalign/zzlaws_root_b1.FnHighestForcedTakingOneMore", spec := "fnHighestForcedTakingOneMore", apart := false }
def FnHighestForcedTakingOneMoreSaid : Prop := fnHighestForcedTakingOneMoreRow.holds Try.pinned (OpenSpec.ofChange fnHighestForcedTakingOneMoreSpec)

/-- ITS FALSE NEIGHBOUR: 'it returns false'. Refute it at one input. -/
def fnHighestForcedTakingOneMoreWrong : ChangeSpec := { name := "fnHighestForcedTakingOneMore", fn := fun _ => fun
  | [d1, d2, d3, d4] => { results := [.lit (.bool false)], args := [d1, d2, d3, d4] }
  | _ => none }
def FnHighestForcedTakingOneMoreWrongFalsely : Prop := fnHighestForcedTakingOneMoreRow.holds Try.pinned (OpenSpec.ofChange fnHighestForcedTakingOneMoreWrong)

end Rows
end Go.Proofs.Qxb6613881a
