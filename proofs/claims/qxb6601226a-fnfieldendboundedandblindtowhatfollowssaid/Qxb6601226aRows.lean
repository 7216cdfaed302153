/-
  No cell of these rows narrows 'for every input' (looked for: loops, veiled, ifaces, maps, wideKeys, modest, calm, conditions, laid).
  DERIVED. THE GIVEN ROWS OF THIS SEAT. 4 by the template 'for every input the law returns true; each argument reads behind the call as it read before'; 0 by the template 'total and deterministic' (their statements: Qxb6601226aTotals.lean).
  GIVEN WITH THE SEED: the statements are not yours to turn. If you find one false, say at which input.
  Laid BY PROGRAM, IN A SANDBOX (cutbox-rows.mjs): the forced cells as the released guide's own fill.sh prints them over the translation 5f0e89e6297ec9ff… (all of the seat's roots in one cut). By AI agents, Wed Nov 11 2026. No macro, syntax, notation, axiom, sorry.
-/
import Derived.Test.Qxb6601226aChecked
import GoSem.Claim
import GoSem.ClaimJoined
import GoSem.ClaimMapViews
import Derived.JoinedTies
import Derived.KernelRfl
namespace Go.Proofs.Qxb6601226a
/- THE CELL 'sum', in the pinned program and in every row, IS THE sha256 OF THE DUMP (.gsa) THAT Qxb6601226aProg.lean LOADS. Nothing in Lean hashes anything: it is a label: what it is worth is what the hold of that sum in a sandbox is worth. -/
noncomputable def Try.pinned : Pinned := { name := "qxb6601226a", sum := "5f0e89e6297ec9ffea61b51edff6bd4c533c33d3cb37ada654bc3e7776dba396", checked := Try.checked }
namespace Rows
def none {H : Type} : Left H := { results := [], args := [] }

/-- 'zzlaws_masterfile_b1.FnFieldEndMatchesModel': WHATEVER THE INPUT: true; the input reads as it did. -/
def fnFieldEndMatchesModelSpec : ChangeSpec := { name := "fnFieldEndMatchesModel", fn := fun _ => fun
  | [d1, d2] => { results := [.lit (.bool true)], args := [d1, d2] }
  | _ => none }
def fnFieldEndMatchesModelRow : OpenClaim := { program := "qxb6601226a", sum := "5f0e89e6297ec9ffea61b51edff6bd4c533c33d3cb37ada654bc3e7776dba396", func := "example.com/whereabouts/whereabouts/zzlaws_masterfile_b1.FnFieldEndMatchesModel", spec := "fnFieldEndMatchesModel", apart := false }
def FnFieldEndMatchesModelSaid : Prop := fnFieldEndMatchesModelRow.holds Try.pinned (OpenSpec.ofChange fnFieldEndMatchesModelSpec)

/-- ITS FALSE NEIGHBOUR: 'it returns false'. Refute it at one input. -/
def fnFieldEndMatchesModelWrong : ChangeSpec := { name := "fnFieldEndMatchesModel", fn := fun _ => fun
  | [d1, d2] => { results := [.lit (.bool false)], args := [d1, d2] }
  | _ => none }
def FnFieldEndMatchesModelWrongFalsely : Prop := fnFieldEndMatchesModelRow.holds Try.pinned (OpenSpec.ofChange fnFieldEndMatchesModelWrong)

/-- 'zzlaws_masterfile_b1.FnFieldEndBoundedAndBlindToWhatFollows': WHATEVER THE INPUT: true; the input reads as it did. -/
def fnFieldEndBoundedAndBlindToWhatFollowsSpec : ChangeSpec := { name := "fnFieldEndBoundedAndBlindToWhatFollows", fn := fun _ => fun
  | [d1, d2, d3] => { results := [.lit (.bool true)], args := [d1, d2, d3] }
  | _ => none }
def fnFieldEndBoundedAndBlindToWhatFollowsRow : OpenClaim := { program := "qxb6601226a", sum := "5f0e89e6297ec9ffea61b51edff6bd4c533c33d3cb37ada654bc3e7776dba396", func := "example.com/whereabouts/whereabouts/zzlaws_masterfile_b1.FnFieldEndBoundedAndBlindToWhatFollows", spec := "fnFieldEndBoundedAndBlindToWhatFollows", apart := false }
def FnFieldEndBoundedAndBlindToWhatFollowsSaid : Prop := fnFieldEndBoundedAndBlindToWhatFollowsRow.holds Try.pinned (OpenSpec.ofChange fnFieldEndBoundedAndBlindToWhatFollowsSpec)

/-- ITS FALSE NEIGHBOUR: 'it returns false'. Refute it at one input. -/
def fnFieldEndBoundedAndBlindToWhatFollowsWrong : ChangeSpec := { name := "fnFieldEndBoundedAndBlindToWhatFollows", fn := fun _ => fun
  | [d1, d2, d3] => { results := [.lit (.bool false)], args := [d1, d2, d3] }
  | _ => none }
def FnFieldEndBoundedAndBlindToWhatFollowsWrongFalsely : Prop := fnFieldEndBoundedAndBlindToWhatFollowsRow.holds Try.pinned (OpenSpec.ofChange fnFieldEndBoundedAndBlindToWhatFollowsWrong)

/-- 'zzlaws_masterfile_b1.FnIsAbsoluteMatchesEscapeScan': WHATEVER THE INPUT: true; the input reads as it did. -/
def fnIsAbsoluteMatchesEscapeScanSpec : ChangeSpec := { name := "fnIsAbsoluteMatchesEscapeScan", fn := fun _ => fun
  | [d] => { results := [.lit (.bool true)], args := [d] }
  | _ => none }
def fnIsAbsoluteMatchesEscapeScanRow : OpenClaim := { program := "qxb6601226a", sum := "5f0e89e6297ec9ffea61b51edff6bd4c533c33d3cb37ada654bc3e7776dba396", func := "example.com/whereabouts/whereabouts/zzlaws_masterfile_b1.FnIsAbsoluteMatchesEscapeScan", spec := "fnIsAbsoluteMatchesEscapeScan", apart := false }
def FnIsAbsoluteMatchesEscapeScanSaid : Prop := fnIsAbsoluteMatchesEscapeScanRow.holds Try.pinned (OpenSpec.ofChange fnIsAbsoluteMatchesEscapeScanSpec)

/-- ITS FALSE NEIGHBOUR: 'it returns false'. Refute it at one input. -/
def fnIsAbsoluteMatchesEscapeScanWrong : ChangeSpec := { name := "fnIsAbsoluteMatchesEscapeScan", fn := fun _ => fun
  | [d] => { results := [.lit (.bool false)], args := [d] }
  | _ => none }
def FnIsAbsoluteMatchesEscapeScanWrongFalsely : Prop := fnIsAbsoluteMatchesEscapeScanRow.holds Try.pinned (OpenSpec.ofChange fnIsAbsoluteMatchesEscapeScanWrong)

/-- 'zzlaws_masterfile_b1.FnIsAbsoluteEscapeParity': WHATEVER THE INPUT: true; the input reads as it did. -/
def fnIsAbsoluteEscapeParitySpec : ChangeSpec := { name := "fnIsAbsoluteEscapeParity", fn := fun _ => fun
  | [d] => { results := [.lit (.bool true)], args := [d] }
  | _ => none }
def fnIsAbsoluteEscapeParityRow : OpenClaim := { program := "qxb6601226a", sum := "5f0e89e6297ec9ffea61b51edff6bd4c533c33d3cb37ada654bc3e7776dba396", func := "example.com/whereabouts/whereabouts/zzlaws_masterfile_b1.FnIsAbsoluteEscapeParity", spec := "fnIsAbsoluteEscapeParity", apart := false }
def FnIsAbsoluteEscapeParitySaid : Prop := fnIsAbsoluteEscapeParityRow.holds Try.pinned (OpenSpec.ofChange fnIsAbsoluteEscapeParitySpec)

/-- ITS FALSE NEIGHBOUR: 'it returns false'. Refute it at one input. -/
def fnIsAbsoluteEscapeParityWrong : ChangeSpec := { name := "fnIsAbsoluteEscapeParity", fn := fun _ => fun
  | [d] => { results := [.lit (.bool false)], args := [d] }
  | _ => none }
def FnIsAbsoluteEscapeParityWrongFalsely : Prop := fnIsAbsoluteEscapeParityRow.holds Try.pinned (OpenSpec.ofChange fnIsAbsoluteEscapeParityWrong)

end Rows
end Go.Proofs.Qxb6601226a
