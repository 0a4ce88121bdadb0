/-
  No cell of these rows narrows 'for every input' (looked for: loops, veiled, ifaces, maps, wideKeys, modest, calm, conditions, laid).
  DERIVED. THE GIVEN ROWS OF THIS SEAT. 2 by the template 'for every input the law returns true; each argument reads behind the call as it read before'; 0 by the template 'total and deterministic' (their statements: Qxb6603074aTotals.lean).
  GIVEN WITH THE SEED: the statements are not yours to turn. If you find one false, say at which input.
  Laid BY PROGRAM, IN A SANDBOX (cutbox-rows.mjs): the forced cells as the released guide's own fill.sh prints them over the translation 7f3c22735b5eb377… (all of the seat's roots in one cut). By AI agents, Wed Nov 11 2026. No macro, syntax, notation, axiom, sorry.
-/
import Derived.Test.Qxb6603074aChecked
import GoSem.Claim
import GoSem.ClaimJoined
import GoSem.ClaimMapViews
import Derived.JoinedTies
import Derived.KernelRfl
namespace Go.Proofs.Qxb6603074a
/- THE CELL 'sum', in the pinned program and in every row, IS THE sha256 OF THE DUMP (.gsa) THAT Qxb6603074aProg.lean LOADS. Nothing in Lean hashes anything: it is a label: what it is worth is what the hold of that sum in a sandbox is worth. -/
noncomputable def Try.pinned : Pinned := { name := "qxb6603074a", sum := "7f3c22735b5eb3777cae0687133f49a4c44829c0c014255445f672a5b5aaf8de", checked := Try.checked }
namespace Rows
def none {H : Type} : Left H := { results := [], args := [] }

/-- 'zzlaws_extract_b1.FnToldMatchesScan': WHATEVER THE INPUT: true; the input reads as it did. -/
def fnToldMatchesScanSpec : ChangeSpec := { name := "fnToldMatchesScan", fn := fun _ => fun
  | [d] => { results := [.lit (.bool true)], args := [d] }
  | _ => none }
def fnToldMatchesScanRow : OpenClaim := { program := "qxb6603074a", sum := "7f3c22735b5eb3777cae0687133f49a4c44829c0c014255445f672a5b5aaf8de", func := "example.com/anansi/anansi/zzlaws_extract_b1.FnToldMatchesScan", spec := "fnToldMatchesScan", inPlace := ["internal/bytealg.IndexByte"], apart := false }
def FnToldMatchesScanSaid : Prop := fnToldMatchesScanRow.holds Try.pinned (OpenSpec.ofChange fnToldMatchesScanSpec)

/-- ITS FALSE NEIGHBOUR: 'it returns false'. Refute it at one input. -/
def fnToldMatchesScanWrong : ChangeSpec := { name := "fnToldMatchesScan", fn := fun _ => fun
  | [d] => { results := [.lit (.bool false)], args := [d] }
  | _ => none }
def FnToldMatchesScanWrongFalsely : Prop := fnToldMatchesScanRow.holds Try.pinned (OpenSpec.ofChange fnToldMatchesScanWrong)

/-- 'zzlaws_extract_b1.FnToldDecidedStaysDecided': WHATEVER THE INPUT: true; the input reads as it did. -/
def fnToldDecidedStaysDecidedSpec : ChangeSpec := { name := "fnToldDecidedStaysDecided", fn := fun _ => fun
  | [d1, d2] => { results := [.lit (.bool true)], args := [d1, d2] }
  | _ => none }
def fnToldDecidedStaysDecidedRow : OpenClaim := { program := "qxb6603074a", sum := "7f3c22735b5eb3777cae0687133f49a4c44829c0c014255445f672a5b5aaf8de", func := "example.com/anansi/anansi/zzlaws_extract_b1.FnToldDecidedStaysDecided", spec := "fnToldDecidedStaysDecided", inPlace := ["internal/bytealg.IndexByte"], apart := false }
def FnToldDecidedStaysDecidedSaid : Prop := fnToldDecidedStaysDecidedRow.holds Try.pinned (OpenSpec.ofChange fnToldDecidedStaysDecidedSpec)

/-- ITS FALSE NEIGHBOUR: 'it returns false'. Refute it at one input. -/
def fnToldDecidedStaysDecidedWrong : ChangeSpec := { name := "fnToldDecidedStaysDecided", fn := fun _ => fun
  | [d1, d2] => { results := [.lit (.bool false)], args := [d1, d2] }
  | _ => none }
def FnToldDecidedStaysDecidedWrongFalsely : Prop := fnToldDecidedStaysDecidedRow.holds Try.pinned (OpenSpec.ofChange fnToldDecidedStaysDecidedWrong)

end Rows
end Go.Proofs.Qxb6603074a
