/-
  No cell of these rows narrows 'for every input' (looked for: loops, veiled, ifaces, maps, wideKeys, modest, calm, conditions, laid).
  DERIVED. THE GIVEN ROWS OF THIS SEAT. 2 by the template 'for every input the law returns true; each argument reads behind the call as it read before'; 0 by the template 'total and deterministic' (their statements: Qxb6602881aTotals.lean).
  GIVEN WITH THE SEED: the statements are not yours to turn. If you find one false, say at which input.
  Laid BY PROGRAM, IN A SANDBOX (cutbox-rows.mjs): the forced cells as the released guide's own fill.sh prints them over the translation 995f9154711206ed… (all of the seat's roots in one cut). By AI agents, Wed Nov 11 2026. No macro, syntax, notation, axiom, sorry.
-/
import Derived.Test.Qxb6602881aChecked
import GoSem.Claim
import GoSem.ClaimJoined
import GoSem.ClaimMapViews
import Derived.JoinedTies
import Derived.KernelRfl
namespace Go.Proofs.Qxb6602881a
/- THE CELL 'sum', in the pinned program and in every row, IS THE sha256 OF THE DUMP (.gsa) THAT Qxb6602881aProg.lean LOADS. Nothing in Lean hashes anything: it is a label: what it is worth is what the hold of that sum in a sandbox is worth. -/
noncomputable def Try.pinned : Pinned := { name := "qxb6602881a", sum := "995f9154711206edee78fcbf3c5044f510f1aba43430c3959dac05dafc5f804f", checked := Try.checked }
namespace Rows
def none {H : Type} : Left H := { results := [], args := [] }

/-- 'zzlaws_internal_zfs_b1.FnPoolOfIsPrefixBeforeFirstSlashOrAt': WHATEVER THE INPUT: true; the input reads as it did. -/
def fnPoolOfIsPrefixBeforeFirstSlashOrAtSpec : ChangeSpec := { name := "fnPoolOfIsPrefixBeforeFirstSlashOrAt", fn := fun _ => fun
  | [d] => { results := [.lit (.bool true)], args := [d] }
  | _ => none }
def fnPoolOfIsPrefixBeforeFirstSlashOrAtRow : OpenClaim := { program := "qxb6602881a", sum := "995f9154711206edee78fcbf3c5044f510f1aba43430c3959dac05dafc5f804f", func := "example.com/stillframe/stillframe/zzlaws_internal_zfs_b1.FnPoolOfIsPrefixBeforeFirstSlashOrAt", spec := "fnPoolOfIsPrefixBeforeFirstSlashOrAt", inPlace := ["internal/bytealg.IndexByteString", "internal/bytealg.IndexString"], named := ["internal/bytealg.MaxLen"], apart := false }
def FnPoolOfIsPrefixBeforeFirstSlashOrAtSaid : Prop := fnPoolOfIsPrefixBeforeFirstSlashOrAtRow.holds Try.pinned (OpenSpec.ofChange fnPoolOfIsPrefixBeforeFirstSlashOrAtSpec)

/-- ITS FALSE NEIGHBOUR: 'it returns false'. Refute it at one input. -/
def fnPoolOfIsPrefixBeforeFirstSlashOrAtWrong : ChangeSpec := { name := "fnPoolOfIsPrefixBeforeFirstSlashOrAt", fn := fun _ => fun
  | [d] => { results := [.lit (.bool false)], args := [d] }
  | _ => none }
def FnPoolOfIsPrefixBeforeFirstSlashOrAtWrongFalsely : Prop := fnPoolOfIsPrefixBeforeFirstSlashOrAtRow.holds Try.pinned (OpenSpec.ofChange fnPoolOfIsPrefixBeforeFirstSlashOrAtWrong)

/-- 'zzlaws_internal_zfs_b1.FnPoolOfSameForChildrenAndSnapshots': WHATEVER THE INPUT: true; the input reads as it did. -/
def fnPoolOfSameForChildrenAndSnapshotsSpec : ChangeSpec := { name := "fnPoolOfSameForChildrenAndSnapshots", fn := fun _ => fun
  | [d1, d2] => { results := [.lit (.bool true)], args := [d1, d2] }
  | _ => none }
def fnPoolOfSameForChildrenAndSnapshotsRow : OpenClaim := { program := "qxb6602881a", sum := "995f9154711206edee78fcbf3c5044f510f1aba43430c3959dac05dafc5f804f", func := "example.com/stillframe/stillframe/zzlaws_internal_zfs_b1.FnPoolOfSameForChildrenAndSnapshots", spec := "fnPoolOfSameForChildrenAndSnapshots", inPlace := ["internal/bytealg.IndexByteString", "internal/bytealg.IndexString"], named := ["internal/bytealg.MaxLen"], apart := false }
def FnPoolOfSameForChildrenAndSnapshotsSaid : Prop := fnPoolOfSameForChildrenAndSnapshotsRow.holds Try.pinned (OpenSpec.ofChange fnPoolOfSameForChildrenAndSnapshotsSpec)

/-- ITS FALSE NEIGHBOUR: 'it returns false'. Refute it at one input. -/
def fnPoolOfSameForChildrenAndSnapshotsWrong : ChangeSpec := { name := "fnPoolOfSameForChildrenAndSnapshots", fn := fun _ => fun
  | [d1, d2] => { results := [.lit (.bool false)], args := [d1, d2] }
  | _ => none }
def FnPoolOfSameForChildrenAndSnapshotsWrongFalsely : Prop := fnPoolOfSameForChildrenAndSnapshotsRow.holds Try.pinned (OpenSpec.ofChange fnPoolOfSameForChildrenAndSnapshotsWrong)

end Rows
end Go.Proofs.Qxb6602881a
