/-
  No cell of these rows narrows 'for every input' (looked for: loops, veiled, ifaces, maps, wideKeys, modest, calm, conditions, laid).
  DERIVED. THE GIVEN ROWS OF THIS SEAT. 5 by the template 'for every input the law returns true; each argument reads behind the call as it read before'; 0 by the template 'total and deterministic' (their statements: Qxb6602445aModsTotals.lean).
  GIVEN WITH THE SEED: the statements are not yours to turn. If you find one false, say at which input.
  Laid BY PROGRAM, IN A SANDBOX (cutbox-rows.mjs): the forced cells as the released guide's own fill.sh prints them over the translation b92960fe83459c47… (all of the seat's roots in one cut). By AI agents, Wed Nov 11 2026. No macro, syntax, notation, axiom, sorry.
-/
import Derived.Test.Qxb6602445aModsChecked
import GoSem.Claim
import GoSem.ClaimJoined
import GoSem.ClaimMapViews
import Derived.JoinedTies
import Derived.KernelRfl
namespace Go.Proofs.Qxb6602445aMods
/- THE CELL 'sum', in the pinned program and in every row, IS THE sha256 OF THE DUMP (.gsa) THAT Qxb6602445aModsProg.lean LOADS. Nothing in Lean hashes anything: it is a label: what it is worth is what the hold of that sum in a sandbox is worth. -/
noncomputable def Trym.pinned : Pinned := { name := "qxb6602445amods", sum := "b92960fe83459c47d39bb2f083ec204c499638c73daaee19e383da9b85f69c28", checked := Trym.checked }
namespace Rows
def none {H : Type} : Left H := { results := [], args := [] }

/-- 'zzlaws_corev1alpha1_b1.FnSeedNetworksListRebuild': WHATEVER THE INPUT: true; the input reads as it did. -/
def fnSeedNetworksListRebuildSpec : ChangeSpec := { name := "fnSeedNetworksListRebuild", fn := fun _ => fun
  | [d1, d2, d3] => { results := [.lit (.bool true)], args := [d1, d2, d3] }
  | _ => none }
def fnSeedNetworksListRebuildRow : OpenClaim := { program := "qxb6602445amods", sum := "b92960fe83459c47d39bb2f083ec204c499638c73daaee19e383da9b85f69c28", func := "example.com/espalier/espalier/zzlaws_corev1alpha1_b1.FnSeedNetworksListRebuild", spec := "fnSeedNetworksListRebuild", make := .lifted ["publicsums"], apart := false }
def FnSeedNetworksListRebuildSaid : Prop := fnSeedNetworksListRebuildRow.holds Trym.pinned (OpenSpec.ofChange fnSeedNetworksListRebuildSpec)

/-- ITS FALSE NEIGHBOUR: 'it returns false'. Refute it at one input. -/
def fnSeedNetworksListRebuildWrong : ChangeSpec := { name := "fnSeedNetworksListRebuild", fn := fun _ => fun
  | [d1, d2, d3] => { results := [.lit (.bool false)], args := [d1, d2, d3] }
  | _ => none }
def FnSeedNetworksListRebuildWrongFalsely : Prop := fnSeedNetworksListRebuildRow.holds Trym.pinned (OpenSpec.ofChange fnSeedNetworksListRebuildWrong)

/-- 'zzlaws_corev1alpha1_b1.FnNetworkingListRebuild': WHATEVER THE INPUT: true; the input reads as it did. -/
def fnNetworkingListRebuildSpec : ChangeSpec := { name := "fnNetworkingListRebuild", fn := fun _ => fun
  | [d1, d2, d3] => { results := [.lit (.bool true)], args := [d1, d2, d3] }
  | _ => none }
def fnNetworkingListRebuildRow : OpenClaim := { program := "qxb6602445amods", sum := "b92960fe83459c47d39bb2f083ec204c499638c73daaee19e383da9b85f69c28", func := "example.com/espalier/espalier/zzlaws_corev1alpha1_b1.FnNetworkingListRebuild", spec := "fnNetworkingListRebuild", make := .lifted ["publicsums"], apart := false }
def FnNetworkingListRebuildSaid : Prop := fnNetworkingListRebuildRow.holds Trym.pinned (OpenSpec.ofChange fnNetworkingListRebuildSpec)

/-- ITS FALSE NEIGHBOUR: 'it returns false'. Refute it at one input. -/
def fnNetworkingListRebuildWrong : ChangeSpec := { name := "fnNetworkingListRebuild", fn := fun _ => fun
  | [d1, d2, d3] => { results := [.lit (.bool false)], args := [d1, d2, d3] }
  | _ => none }
def FnNetworkingListRebuildWrongFalsely : Prop := fnNetworkingListRebuildRow.holds Trym.pinned (OpenSpec.ofChange fnNetworkingListRebuildWrong)

/-- 'zzlaws_corev1alpha1_b1.FnSeedAndClusterListsAgree': WHATEVER THE INPUT: true; the input reads as it did. -/
def fnSeedAndClusterListsAgreeSpec : ChangeSpec := { name := "fnSeedAndClusterListsAgree", fn := fun _ => fun
  | [d1, d2, d3] => { results := [.lit (.bool true)], args := [d1, d2, d3] }
  | _ => none }
def fnSeedAndClusterListsAgreeRow : OpenClaim := { program := "qxb6602445amods", sum := "b92960fe83459c47d39bb2f083ec204c499638c73daaee19e383da9b85f69c28", func := "example.com/espalier/espalier/zzlaws_corev1alpha1_b1.FnSeedAndClusterListsAgree", spec := "fnSeedAndClusterListsAgree", make := .lifted ["publicsums"], apart := false }
def FnSeedAndClusterListsAgreeSaid : Prop := fnSeedAndClusterListsAgreeRow.holds Trym.pinned (OpenSpec.ofChange fnSeedAndClusterListsAgreeSpec)

/-- ITS FALSE NEIGHBOUR: 'it returns false'. Refute it at one input. -/
def fnSeedAndClusterListsAgreeWrong : ChangeSpec := { name := "fnSeedAndClusterListsAgree", fn := fun _ => fun
  | [d1, d2, d3] => { results := [.lit (.bool false)], args := [d1, d2, d3] }
  | _ => none }
def FnSeedAndClusterListsAgreeWrongFalsely : Prop := fnSeedAndClusterListsAgreeRow.holds Trym.pinned (OpenSpec.ofChange fnSeedAndClusterListsAgreeWrong)

/-- 'zzlaws_corev1alpha1_b1.FnCloudProfileSpecDeepCopyIntoExact': WHATEVER THE INPUT: true; the input reads as it did. -/
def fnCloudProfileSpecDeepCopyIntoExactSpec : ChangeSpec := { name := "fnCloudProfileSpecDeepCopyIntoExact", fn := fun _ => fun
  | [d1, d2, d3, d4, d5, d6, d7, d8] => { results := [.lit (.bool true)], args := [d1, d2, d3, d4, d5, d6, d7, d8] }
  | _ => none }
def fnCloudProfileSpecDeepCopyIntoExactRow : OpenClaim := { program := "qxb6602445amods", sum := "b92960fe83459c47d39bb2f083ec204c499638c73daaee19e383da9b85f69c28", func := "example.com/espalier/espalier/zzlaws_corev1alpha1_b1.FnCloudProfileSpecDeepCopyIntoExact", spec := "fnCloudProfileSpecDeepCopyIntoExact", make := .lifted ["publicsums"], apart := false }
def FnCloudProfileSpecDeepCopyIntoExactSaid : Prop := fnCloudProfileSpecDeepCopyIntoExactRow.holds Trym.pinned (OpenSpec.ofChange fnCloudProfileSpecDeepCopyIntoExactSpec)

/-- ITS FALSE NEIGHBOUR: 'it returns false'. Refute it at one input. -/
def fnCloudProfileSpecDeepCopyIntoExactWrong : ChangeSpec := { name := "fnCloudProfileSpecDeepCopyIntoExact", fn := fun _ => fun
  | [d1, d2, d3, d4, d5, d6, d7, d8] => { results := [.lit (.bool false)], args := [d1, d2, d3, d4, d5, d6, d7, d8] }
  | _ => none }
def FnCloudProfileSpecDeepCopyIntoExactWrongFalsely : Prop := fnCloudProfileSpecDeepCopyIntoExactRow.holds Trym.pinned (OpenSpec.ofChange fnCloudProfileSpecDeepCopyIntoExactWrong)

/-- 'zzlaws_corev1alpha1_b1.FnCloudProfileSpecDeepCopyIntoSelf': WHATEVER THE INPUT: true; the input reads as it did. -/
def fnCloudProfileSpecDeepCopyIntoSelfSpec : ChangeSpec := { name := "fnCloudProfileSpecDeepCopyIntoSelf", fn := fun _ => fun
  | [d1, d2, d3, d4] => { results := [.lit (.bool true)], args := [d1, d2, d3, d4] }
  | _ => none }
def fnCloudProfileSpecDeepCopyIntoSelfRow : OpenClaim := { program := "qxb6602445amods", sum := "b92960fe83459c47d39bb2f083ec204c499638c73daaee19e383da9b85f69c28", func := "example.com/espalier/espalier/zzlaws_corev1alpha1_b1.FnCloudProfileSpecDeepCopyIntoSelf", spec := "fnCloudProfileSpecDeepCopyIntoSelf", make := .lifted ["publicsums"], apart := false }
def FnCloudProfileSpecDeepCopyIntoSelfSaid : Prop := fnCloudProfileSpecDeepCopyIntoSelfRow.holds Trym.pinned (OpenSpec.ofChange fnCloudProfileSpecDeepCopyIntoSelfSpec)

/-- ITS FALSE NEIGHBOUR: 'it returns false'. Refute it at one input. -/
def fnCloudProfileSpecDeepCopyIntoSelfWrong : ChangeSpec := { name := "fnCloudProfileSpecDeepCopyIntoSelf", fn := fun _ => fun
  | [d1, d2, d3, d4] => { results := [.lit (.bool false)], args := [d1, d2, d3, d4] }
  | _ => none }
def FnCloudProfileSpecDeepCopyIntoSelfWrongFalsely : Prop := fnCloudProfileSpecDeepCopyIntoSelfRow.holds Trym.pinned (OpenSpec.ofChange fnCloudProfileSpecDeepCopyIntoSelfWrong)

end Rows
end Go.Proofs.Qxb6602445aMods
