/-
  No cell of these rows narrows 'for every input' (looked for: loops, veiled, ifaces, maps, wideKeys, modest, calm, conditions, laid).
  DERIVED. THE GIVEN ROWS OF THIS SEAT. 7 by the template 'for every input the law returns true; each argument reads behind the call as it read before'; 0 by the template 'total and deterministic' (their statements: Qxb6602767aModsTotals.lean).
  GIVEN WITH THE SEED: the statements are not yours to turn. If you find one false, say at which input.
  Laid BY PROGRAM, IN A SANDBOX (cutbox-rows.mjs): the forced cells as the released guide's own fill.sh prints them over the translation 2aa90607c5f0c2c1… (all of the seat's roots in one cut). By AI agents, Wed Nov 11 2026. No macro, syntax, notation, axiom, sorry.
-/
import Derived.Test.Qxb6602767aModsChecked
import GoSem.Claim
import GoSem.ClaimJoined
import GoSem.ClaimMapViews
import Derived.JoinedTies
import Derived.KernelRfl
namespace Go.Proofs.Qxb6602767aMods
/- THE CELL 'sum', in the pinned program and in every row, IS THE sha256 OF THE DUMP (.gsa) THAT Qxb6602767aModsProg.lean LOADS. Nothing in Lean hashes anything: it is a label: what it is worth is what the hold of that sum in a sandbox is worth. -/
noncomputable def Trym.pinned : Pinned := { name := "qxb6602767amods", sum := "2aa90607c5f0c2c141c8deb71a0bc6223517a2573986e9c44643de8925e634dc", checked := Trym.checked }
namespace Rows
def none {H : Type} : Left H := { results := [], args := [] }

/-- 'zzlaws_root_b1.FnNameIsLastSegment': WHATEVER THE INPUT: true; the input reads as it did. -/
def fnNameIsLastSegmentSpec : ChangeSpec := { name := "fnNameIsLastSegment", fn := fun _ => fun
  | [d] => { results := [.lit (.bool true)], args := [d] }
  | _ => none }
def fnNameIsLastSegmentRow : OpenClaim := { program := "qxb6602767amods", sum := "2aa90607c5f0c2c141c8deb71a0bc6223517a2573986e9c44643de8925e634dc", func := "example.com/keyspace/keyspace/zzlaws_root_b1.FnNameIsLastSegment", spec := "fnNameIsLastSegment", make := .lifted ["publicsums"], apart := false }
def FnNameIsLastSegmentSaid : Prop := fnNameIsLastSegmentRow.holds Trym.pinned (OpenSpec.ofChange fnNameIsLastSegmentSpec)

/-- ITS FALSE NEIGHBOUR: 'it returns false'. Refute it at one input. -/
def fnNameIsLastSegmentWrong : ChangeSpec := { name := "fnNameIsLastSegment", fn := fun _ => fun
  | [d] => { results := [.lit (.bool false)], args := [d] }
  | _ => none }
def FnNameIsLastSegmentWrongFalsely : Prop := fnNameIsLastSegmentRow.holds Trym.pinned (OpenSpec.ofChange fnNameIsLastSegmentWrong)

/-- 'zzlaws_root_b1.FnNameAfterParent': WHATEVER THE INPUT: true; the input reads as it did. -/
def fnNameAfterParentSpec : ChangeSpec := { name := "fnNameAfterParent", fn := fun _ => fun
  | [d] => { results := [.lit (.bool true)], args := [d] }
  | _ => none }
def fnNameAfterParentRow : OpenClaim := { program := "qxb6602767amods", sum := "2aa90607c5f0c2c141c8deb71a0bc6223517a2573986e9c44643de8925e634dc", func := "example.com/keyspace/keyspace/zzlaws_root_b1.FnNameAfterParent", spec := "fnNameAfterParent", make := .lifted ["publicsums"], apart := false }
def FnNameAfterParentSaid : Prop := fnNameAfterParentRow.holds Trym.pinned (OpenSpec.ofChange fnNameAfterParentSpec)

/-- ITS FALSE NEIGHBOUR: 'it returns false'. Refute it at one input. -/
def fnNameAfterParentWrong : ChangeSpec := { name := "fnNameAfterParent", fn := fun _ => fun
  | [d] => { results := [.lit (.bool false)], args := [d] }
  | _ => none }
def FnNameAfterParentWrongFalsely : Prop := fnNameAfterParentRow.holds Trym.pinned (OpenSpec.ofChange fnNameAfterParentWrong)

/-- 'zzlaws_root_b1.FnChildNameIsFirstSegment': WHATEVER THE INPUT: true; the input reads as it did. -/
def fnChildNameIsFirstSegmentSpec : ChangeSpec := { name := "fnChildNameIsFirstSegment", fn := fun _ => fun
  | [d] => { results := [.lit (.bool true)], args := [d] }
  | _ => none }
def fnChildNameIsFirstSegmentRow : OpenClaim := { program := "qxb6602767amods", sum := "2aa90607c5f0c2c141c8deb71a0bc6223517a2573986e9c44643de8925e634dc", func := "example.com/keyspace/keyspace/zzlaws_root_b1.FnChildNameIsFirstSegment", spec := "fnChildNameIsFirstSegment", inPlace := ["internal/bytealg.IndexByteString"], make := .lifted ["publicsums"], apart := false }
def FnChildNameIsFirstSegmentSaid : Prop := fnChildNameIsFirstSegmentRow.holds Trym.pinned (OpenSpec.ofChange fnChildNameIsFirstSegmentSpec)

/-- ITS FALSE NEIGHBOUR: 'it returns false'. Refute it at one input. -/
def fnChildNameIsFirstSegmentWrong : ChangeSpec := { name := "fnChildNameIsFirstSegment", fn := fun _ => fun
  | [d] => { results := [.lit (.bool false)], args := [d] }
  | _ => none }
def FnChildNameIsFirstSegmentWrongFalsely : Prop := fnChildNameIsFirstSegmentRow.holds Trym.pinned (OpenSpec.ofChange fnChildNameIsFirstSegmentWrong)

/-- 'zzlaws_root_b1.FnChildNameStable': WHATEVER THE INPUT: true; the input reads as it did. -/
def fnChildNameStableSpec : ChangeSpec := { name := "fnChildNameStable", fn := fun _ => fun
  | [d1, d2] => { results := [.lit (.bool true)], args := [d1, d2] }
  | _ => none }
def fnChildNameStableRow : OpenClaim := { program := "qxb6602767amods", sum := "2aa90607c5f0c2c141c8deb71a0bc6223517a2573986e9c44643de8925e634dc", func := "example.com/keyspace/keyspace/zzlaws_root_b1.FnChildNameStable", spec := "fnChildNameStable", inPlace := ["internal/bytealg.IndexByteString"], make := .lifted ["publicsums"], apart := false }
def FnChildNameStableSaid : Prop := fnChildNameStableRow.holds Trym.pinned (OpenSpec.ofChange fnChildNameStableSpec)

/-- ITS FALSE NEIGHBOUR: 'it returns false'. Refute it at one input. -/
def fnChildNameStableWrong : ChangeSpec := { name := "fnChildNameStable", fn := fun _ => fun
  | [d1, d2] => { results := [.lit (.bool false)], args := [d1, d2] }
  | _ => none }
def FnChildNameStableWrongFalsely : Prop := fnChildNameStableRow.holds Trym.pinned (OpenSpec.ofChange fnChildNameStableWrong)

/-- 'zzlaws_root_b1.FnChildNameAgreesWithName': WHATEVER THE INPUT: true; the input reads as it did. -/
def fnChildNameAgreesWithNameSpec : ChangeSpec := { name := "fnChildNameAgreesWithName", fn := fun _ => fun
  | [d] => { results := [.lit (.bool true)], args := [d] }
  | _ => none }
def fnChildNameAgreesWithNameRow : OpenClaim := { program := "qxb6602767amods", sum := "2aa90607c5f0c2c141c8deb71a0bc6223517a2573986e9c44643de8925e634dc", func := "example.com/keyspace/keyspace/zzlaws_root_b1.FnChildNameAgreesWithName", spec := "fnChildNameAgreesWithName", inPlace := ["internal/bytealg.IndexByteString"], make := .lifted ["publicsums"], apart := false }
def FnChildNameAgreesWithNameSaid : Prop := fnChildNameAgreesWithNameRow.holds Trym.pinned (OpenSpec.ofChange fnChildNameAgreesWithNameSpec)

/-- ITS FALSE NEIGHBOUR: 'it returns false'. Refute it at one input. -/
def fnChildNameAgreesWithNameWrong : ChangeSpec := { name := "fnChildNameAgreesWithName", fn := fun _ => fun
  | [d] => { results := [.lit (.bool false)], args := [d] }
  | _ => none }
def FnChildNameAgreesWithNameWrongFalsely : Prop := fnChildNameAgreesWithNameRow.holds Trym.pinned (OpenSpec.ofChange fnChildNameAgreesWithNameWrong)

/-- 'zzlaws_root_b1.FnFilesAboveIsEverySlash': WHATEVER THE INPUT: true; the input reads as it did. -/
def fnFilesAboveIsEverySlashSpec : ChangeSpec := { name := "fnFilesAboveIsEverySlash", fn := fun _ => fun
  | [d] => { results := [.lit (.bool true)], args := [d] }
  | _ => none }
def fnFilesAboveIsEverySlashRow : OpenClaim := { program := "qxb6602767amods", sum := "2aa90607c5f0c2c141c8deb71a0bc6223517a2573986e9c44643de8925e634dc", func := "example.com/keyspace/keyspace/zzlaws_root_b1.FnFilesAboveIsEverySlash", spec := "fnFilesAboveIsEverySlash", make := .lifted ["publicsums"], apart := false }
def FnFilesAboveIsEverySlashSaid : Prop := fnFilesAboveIsEverySlashRow.holds Trym.pinned (OpenSpec.ofChange fnFilesAboveIsEverySlashSpec)

/-- ITS FALSE NEIGHBOUR: 'it returns false'. Refute it at one input. -/
def fnFilesAboveIsEverySlashWrong : ChangeSpec := { name := "fnFilesAboveIsEverySlash", fn := fun _ => fun
  | [d] => { results := [.lit (.bool false)], args := [d] }
  | _ => none }
def FnFilesAboveIsEverySlashWrongFalsely : Prop := fnFilesAboveIsEverySlashRow.holds Trym.pinned (OpenSpec.ofChange fnFilesAboveIsEverySlashWrong)

/-- 'zzlaws_root_b1.FnFilesAboveStepsByChildName': WHATEVER THE INPUT: true; the input reads as it did. -/
def fnFilesAboveStepsByChildNameSpec : ChangeSpec := { name := "fnFilesAboveStepsByChildName", fn := fun _ => fun
  | [d] => { results := [.lit (.bool true)], args := [d] }
  | _ => none }
def fnFilesAboveStepsByChildNameRow : OpenClaim := { program := "qxb6602767amods", sum := "2aa90607c5f0c2c141c8deb71a0bc6223517a2573986e9c44643de8925e634dc", func := "example.com/keyspace/keyspace/zzlaws_root_b1.FnFilesAboveStepsByChildName", spec := "fnFilesAboveStepsByChildName", inPlace := ["internal/bytealg.IndexByteString"], make := .lifted ["publicsums"], apart := false }
def FnFilesAboveStepsByChildNameSaid : Prop := fnFilesAboveStepsByChildNameRow.holds Trym.pinned (OpenSpec.ofChange fnFilesAboveStepsByChildNameSpec)

/-- ITS FALSE NEIGHBOUR: 'it returns false'. Refute it at one input. -/
def fnFilesAboveStepsByChildNameWrong : ChangeSpec := { name := "fnFilesAboveStepsByChildName", fn := fun _ => fun
  | [d] => { results := [.lit (.bool false)], args := [d] }
  | _ => none }
def FnFilesAboveStepsByChildNameWrongFalsely : Prop := fnFilesAboveStepsByChildNameRow.holds Trym.pinned (OpenSpec.ofChange fnFilesAboveStepsByChildNameWrong)

end Rows
end Go.Proofs.Qxb6602767aMods
