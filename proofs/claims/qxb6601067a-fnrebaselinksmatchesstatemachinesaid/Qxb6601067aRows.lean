/-
  No cell of these rows narrows 'for every input' (looked for: loops, veiled, ifaces, maps, wideKeys, modest, calm, conditions, laid).
  DERIVED. THE GIVEN ROWS OF THIS SEAT. 5 by the template 'for every input the law returns true; each argument reads behind the call as it read before'; 0 by the template 'total and deterministic' (their statements: Qxb6601067aTotals.lean).
  GIVEN WITH THE SEED: the statements are not yours to turn. If you find one false, say at which input.
  Laid BY PROGRAM, IN A SANDBOX (cutbox-rows.mjs): the forced cells as the released guide's own fill.sh prints them over the translation 09c41c19ad394645… (all of the seat's roots in one cut). By AI agents, Wed Nov 11 2026. No macro, syntax, notation, axiom, sorry.
-/
import Derived.Test.Qxb6601067aChecked
import GoSem.Claim
import GoSem.ClaimJoined
import GoSem.ClaimMapViews
import Derived.JoinedTies
import Derived.KernelRfl
namespace Go.Proofs.Qxb6601067a
/- THE CELL 'sum', in the pinned program and in every row, IS THE sha256 OF THE DUMP (.gsa) THAT Qxb6601067aProg.lean LOADS. Nothing in Lean hashes anything: it is a label: what it is worth is what the hold of that sum in a sandbox is worth. -/
noncomputable def Try.pinned : Pinned := { name := "qxb6601067a", sum := "09c41c19ad394645587bd71abf5bcad24c422898b3186cfc3bacbce6eab28a63", checked := Try.checked }
namespace Rows
def none {H : Type} : Left H := { results := [], args := [] }

/-- 'zzlaws_internal_proxy_b1.FnRebaseLinksMatchesStateMachine': WHATEVER THE INPUT: true; the input reads as it did. -/
def fnRebaseLinksMatchesStateMachineSpec : ChangeSpec := { name := "fnRebaseLinksMatchesStateMachine", fn := fun _ => fun
  | [d1, d2, d3] => { results := [.lit (.bool true)], args := [d1, d2, d3] }
  | _ => none }
def fnRebaseLinksMatchesStateMachineRow : OpenClaim := { program := "qxb6601067a", sum := "09c41c19ad394645587bd71abf5bcad24c422898b3186cfc3bacbce6eab28a63", func := "example.com/forgegate/forgegate/zzlaws_internal_proxy_b1.FnRebaseLinksMatchesStateMachine", spec := "fnRebaseLinksMatchesStateMachine", inPlace := ["internal/bytealg.IndexByteString", "internal/bytealg.IndexString", "internal/abi.NoEscape"], named := ["internal/bytealg.MaxLen"], apart := false }
def FnRebaseLinksMatchesStateMachineSaid : Prop := fnRebaseLinksMatchesStateMachineRow.holds Try.pinned (OpenSpec.ofChange fnRebaseLinksMatchesStateMachineSpec)

/-- ITS FALSE NEIGHBOUR: 'it returns false'. Refute it at one input. -/
def fnRebaseLinksMatchesStateMachineWrong : ChangeSpec := { name := "fnRebaseLinksMatchesStateMachine", fn := fun _ => fun
  | [d1, d2, d3] => { results := [.lit (.bool false)], args := [d1, d2, d3] }
  | _ => none }
def FnRebaseLinksMatchesStateMachineWrongFalsely : Prop := fnRebaseLinksMatchesStateMachineRow.holds Try.pinned (OpenSpec.ofChange fnRebaseLinksMatchesStateMachineWrong)

/-- 'zzlaws_internal_proxy_b1.FnRebaseLinksRoundTrip': WHATEVER THE INPUT: true; the input reads as it did. -/
def fnRebaseLinksRoundTripSpec : ChangeSpec := { name := "fnRebaseLinksRoundTrip", fn := fun _ => fun
  | [d1, d2, d3] => { results := [.lit (.bool true)], args := [d1, d2, d3] }
  | _ => none }
def fnRebaseLinksRoundTripRow : OpenClaim := { program := "qxb6601067a", sum := "09c41c19ad394645587bd71abf5bcad24c422898b3186cfc3bacbce6eab28a63", func := "example.com/forgegate/forgegate/zzlaws_internal_proxy_b1.FnRebaseLinksRoundTrip", spec := "fnRebaseLinksRoundTrip", inPlace := ["internal/bytealg.IndexByteString", "internal/bytealg.IndexString", "internal/abi.NoEscape"], named := ["internal/bytealg.MaxLen"], apart := false }
def FnRebaseLinksRoundTripSaid : Prop := fnRebaseLinksRoundTripRow.holds Try.pinned (OpenSpec.ofChange fnRebaseLinksRoundTripSpec)

/-- ITS FALSE NEIGHBOUR: 'it returns false'. Refute it at one input. -/
def fnRebaseLinksRoundTripWrong : ChangeSpec := { name := "fnRebaseLinksRoundTrip", fn := fun _ => fun
  | [d1, d2, d3] => { results := [.lit (.bool false)], args := [d1, d2, d3] }
  | _ => none }
def FnRebaseLinksRoundTripWrongFalsely : Prop := fnRebaseLinksRoundTripRow.holds Try.pinned (OpenSpec.ofChange fnRebaseLinksRoundTripWrong)

/-- 'zzlaws_internal_proxy_b1.FnClosingMatchesBackslashModel': WHATEVER THE INPUT: true; the input reads as it did. -/
def fnClosingMatchesBackslashModelSpec : ChangeSpec := { name := "fnClosingMatchesBackslashModel", fn := fun _ => fun
  | [d1, d2] => { results := [.lit (.bool true)], args := [d1, d2] }
  | _ => none }
def fnClosingMatchesBackslashModelRow : OpenClaim := { program := "qxb6601067a", sum := "09c41c19ad394645587bd71abf5bcad24c422898b3186cfc3bacbce6eab28a63", func := "example.com/forgegate/forgegate/zzlaws_internal_proxy_b1.FnClosingMatchesBackslashModel", spec := "fnClosingMatchesBackslashModel", inPlace := ["internal/bytealg.IndexByteString"], apart := false }
def FnClosingMatchesBackslashModelSaid : Prop := fnClosingMatchesBackslashModelRow.holds Try.pinned (OpenSpec.ofChange fnClosingMatchesBackslashModelSpec)

/-- ITS FALSE NEIGHBOUR: 'it returns false'. Refute it at one input. -/
def fnClosingMatchesBackslashModelWrong : ChangeSpec := { name := "fnClosingMatchesBackslashModel", fn := fun _ => fun
  | [d1, d2] => { results := [.lit (.bool false)], args := [d1, d2] }
  | _ => none }
def FnClosingMatchesBackslashModelWrongFalsely : Prop := fnClosingMatchesBackslashModelRow.holds Try.pinned (OpenSpec.ofChange fnClosingMatchesBackslashModelWrong)

/-- 'zzlaws_internal_proxy_b1.FnClosingIgnoresWhatFollows': WHATEVER THE INPUT: true; the input reads as it did. -/
def fnClosingIgnoresWhatFollowsSpec : ChangeSpec := { name := "fnClosingIgnoresWhatFollows", fn := fun _ => fun
  | [d1, d2, d3] => { results := [.lit (.bool true)], args := [d1, d2, d3] }
  | _ => none }
def fnClosingIgnoresWhatFollowsRow : OpenClaim := { program := "qxb6601067a", sum := "09c41c19ad394645587bd71abf5bcad24c422898b3186cfc3bacbce6eab28a63", func := "example.com/forgegate/forgegate/zzlaws_internal_proxy_b1.FnClosingIgnoresWhatFollows", spec := "fnClosingIgnoresWhatFollows", inPlace := ["internal/bytealg.IndexByteString"], apart := false }
def FnClosingIgnoresWhatFollowsSaid : Prop := fnClosingIgnoresWhatFollowsRow.holds Try.pinned (OpenSpec.ofChange fnClosingIgnoresWhatFollowsSpec)

/-- ITS FALSE NEIGHBOUR: 'it returns false'. Refute it at one input. -/
def fnClosingIgnoresWhatFollowsWrong : ChangeSpec := { name := "fnClosingIgnoresWhatFollows", fn := fun _ => fun
  | [d1, d2, d3] => { results := [.lit (.bool false)], args := [d1, d2, d3] }
  | _ => none }
def FnClosingIgnoresWhatFollowsWrongFalsely : Prop := fnClosingIgnoresWhatFollowsRow.holds Try.pinned (OpenSpec.ofChange fnClosingIgnoresWhatFollowsWrong)

/-- 'zzlaws_internal_proxy_b1.FnBucketOfSearchSurvivesExtension': WHATEVER THE INPUT: true; the input reads as it did. -/
def fnBucketOfSearchSurvivesExtensionSpec : ChangeSpec := { name := "fnBucketOfSearchSurvivesExtension", fn := fun _ => fun
  | [d1, d2] => { results := [.lit (.bool true)], args := [d1, d2] }
  | _ => none }
def fnBucketOfSearchSurvivesExtensionRow : OpenClaim := { program := "qxb6601067a", sum := "09c41c19ad394645587bd71abf5bcad24c422898b3186cfc3bacbce6eab28a63", func := "example.com/forgegate/forgegate/zzlaws_internal_proxy_b1.FnBucketOfSearchSurvivesExtension", spec := "fnBucketOfSearchSurvivesExtension", apart := false }
def FnBucketOfSearchSurvivesExtensionSaid : Prop := fnBucketOfSearchSurvivesExtensionRow.holds Try.pinned (OpenSpec.ofChange fnBucketOfSearchSurvivesExtensionSpec)

/-- ITS FALSE NEIGHBOUR: 'it returns false'. Refute it at one input. -/
def fnBucketOfSearchSurvivesExtensionWrong : ChangeSpec := { name := "fnBucketOfSearchSurvivesExtension", fn := fun _ => fun
  | [d1, d2] => { results := [.lit (.bool false)], args := [d1, d2] }
  | _ => none }
def FnBucketOfSearchSurvivesExtensionWrongFalsely : Prop := fnBucketOfSearchSurvivesExtensionRow.holds Try.pinned (OpenSpec.ofChange fnBucketOfSearchSurvivesExtensionWrong)

end Rows
end Go.Proofs.Qxb6601067a
