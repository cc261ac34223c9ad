/-
  No cell of these rows narrows 'for every input' (looked for: loops, veiled, ifaces, maps, wideKeys, modest, calm, conditions, laid).
  DERIVED. THE GIVEN ROWS OF THIS SEAT. 3 by the template 'for every input the law returns true; each argument reads behind the call as it read before'; 0 by the template 'total and deterministic' (their statements: Qxb6606128aTotals.lean).
  GIVEN WITH THE SEED: the statements are not yours to turn. If you find one false, say at which input.
  Laid BY PROGRAM, IN A SANDBOX (cutbox-rows.mjs): the forced cells as the released guide's own fill.sh prints them over the translation 562a718c83123fc1… (all of the seat's roots in one cut). By AI agents, Wed Nov 11 2026. No macro, syntax, notation, axiom, sorry.
-/
import Derived.Test.Qxb6606128aChecked
import GoSem.Claim
import GoSem.ClaimJoined
import GoSem.ClaimMapViews
import Derived.JoinedTies
import Derived.KernelRfl
namespace Go.Proofs.Qxb6606128a
/- THE CELL 'sum', in the pinned program and in every row, IS THE sha256 OF THE DUMP (.gsa) THAT Qxb6606128aProg.lean LOADS. Nothing in Lean hashes anything: it is a label: what it is worth is what the hold of that sum in a sandbox is worth. -/
noncomputable def Try.pinned : Pinned := { name := "qxb6606128a", sum := "562a718c83123fc167de8efb06bea7ae1190180fa3c861dfad88b140255691e3", checked := Try.checked }
namespace Rows
def none {H : Type} : Left H := { results := [], args := [] }

/-- 'zzlaws_root_b1.FnScanNameMatchesModel': WHATEVER THE INPUT: true; the input reads as it did. -/
def fnScanNameMatchesModelSpec : ChangeSpec := { name := "fnScanNameMatchesModel", fn := fun _ => fun
  | [d1, d2] => { results := [.lit (.bool true)], args := [d1, d2] }
  | _ => none }
def fnScanNameMatchesModelRow : OpenClaim := { program := "qxb6606128a", sum := "562a718c83123fc167de8efb06bea7ae1190180fa3c861dfad88b140255691e3", func := "example.com/sway-over-roles/sway-over-roles/zzlaws_root_b1.FnScanNameMatchesModel", spec := "fnScanNameMatchesModel", inPlace := ["internal/bytealg.IndexByteString"], apart := false }
def FnScanNameMatchesModelSaid : Prop := fnScanNameMatchesModelRow.holds Try.pinned (OpenSpec.ofChange fnScanNameMatchesModelSpec)

/-- ITS FALSE NEIGHBOUR: 'it returns false'. Refute it at one input. -/
def fnScanNameMatchesModelWrong : ChangeSpec := { name := "fnScanNameMatchesModel", fn := fun _ => fun
  | [d1, d2] => { results := [.lit (.bool false)], args := [d1, d2] }
  | _ => none }
def FnScanNameMatchesModelWrongFalsely : Prop := fnScanNameMatchesModelRow.holds Try.pinned (OpenSpec.ofChange fnScanNameMatchesModelWrong)

/-- 'zzlaws_root_b1.FnScanNameShiftInvariant': WHATEVER THE INPUT: true; the input reads as it did. -/
def fnScanNameShiftInvariantSpec : ChangeSpec := { name := "fnScanNameShiftInvariant", fn := fun _ => fun
  | [d1, d2] => { results := [.lit (.bool true)], args := [d1, d2] }
  | _ => none }
def fnScanNameShiftInvariantRow : OpenClaim := { program := "qxb6606128a", sum := "562a718c83123fc167de8efb06bea7ae1190180fa3c861dfad88b140255691e3", func := "example.com/sway-over-roles/sway-over-roles/zzlaws_root_b1.FnScanNameShiftInvariant", spec := "fnScanNameShiftInvariant", inPlace := ["internal/bytealg.IndexByteString"], apart := false }
def FnScanNameShiftInvariantSaid : Prop := fnScanNameShiftInvariantRow.holds Try.pinned (OpenSpec.ofChange fnScanNameShiftInvariantSpec)

/-- ITS FALSE NEIGHBOUR: 'it returns false'. Refute it at one input. -/
def fnScanNameShiftInvariantWrong : ChangeSpec := { name := "fnScanNameShiftInvariant", fn := fun _ => fun
  | [d1, d2] => { results := [.lit (.bool false)], args := [d1, d2] }
  | _ => none }
def FnScanNameShiftInvariantWrongFalsely : Prop := fnScanNameShiftInvariantRow.holds Try.pinned (OpenSpec.ofChange fnScanNameShiftInvariantWrong)

/-- 'zzlaws_root_b1.FnScanNameCutAfterNameAlone': WHATEVER THE INPUT: true; the input reads as it did. -/
def fnScanNameCutAfterNameAloneSpec : ChangeSpec := { name := "fnScanNameCutAfterNameAlone", fn := fun _ => fun
  | [d1, d2] => { results := [.lit (.bool true)], args := [d1, d2] }
  | _ => none }
def fnScanNameCutAfterNameAloneRow : OpenClaim := { program := "qxb6606128a", sum := "562a718c83123fc167de8efb06bea7ae1190180fa3c861dfad88b140255691e3", func := "example.com/sway-over-roles/sway-over-roles/zzlaws_root_b1.FnScanNameCutAfterNameAlone", spec := "fnScanNameCutAfterNameAlone", inPlace := ["internal/bytealg.IndexByteString"], apart := false }
def FnScanNameCutAfterNameAloneSaid : Prop := fnScanNameCutAfterNameAloneRow.holds Try.pinned (OpenSpec.ofChange fnScanNameCutAfterNameAloneSpec)

/-- ITS FALSE NEIGHBOUR: 'it returns false'. Refute it at one input. -/
def fnScanNameCutAfterNameAloneWrong : ChangeSpec := { name := "fnScanNameCutAfterNameAlone", fn := fun _ => fun
  | [d1, d2] => { results := [.lit (.bool false)], args := [d1, d2] }
  | _ => none }
def FnScanNameCutAfterNameAloneWrongFalsely : Prop := fnScanNameCutAfterNameAloneRow.holds Try.pinned (OpenSpec.ofChange fnScanNameCutAfterNameAloneWrong)

end Rows
end Go.Proofs.Qxb6606128a
