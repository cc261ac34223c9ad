/-
  No cell of these rows narrows 'for every input' (looked for: loops, veiled, ifaces, maps, wideKeys, modest, calm, conditions, laid).
  DERIVED. THE GIVEN ROWS OF THIS SEAT. 1 by the template 'for every input the law returns true; each argument reads behind the call as it read before'; 0 by the template 'total and deterministic' (their statements: Qxb6603871aTotals.lean).
  GIVEN WITH THE SEED: the statements are not yours to turn. If you find one false, say at which input.
  Laid BY PROGRAM, IN A SANDBOX (cutbox-rows.mjs): the forced cells as the released guide's own fill.sh prints them over the translation 4d815a9b27154d11… (all of the seat's roots in one cut). By AI agents, Wed Nov 11 2026. No macro, syntax, notation, axiom, sorry.
-/
import Derived.Test.Qxb6603871aChecked
import GoSem.Claim
import GoSem.ClaimJoined
import GoSem.ClaimMapViews
import Derived.JoinedTies
import Derived.KernelRfl
namespace Go.Proofs.Qxb6603871a
/- THE CELL 'sum', in the pinned program and in every row, IS THE sha256 OF THE DUMP (.gsa) THAT Qxb6603871aProg.lean LOADS. Nothing in Lean hashes anything: it is a label: what it is worth is what the hold of that sum in a sandbox is worth. -/
noncomputable def Try.pinned : Pinned := { name := "qxb6603871a", sum := "4d815a9b27154d11fafe42538fbdf4b827724c406c714ce449e5bb52c0b480bb", checked := Try.checked }
namespace Rows
def none {H : Type} : Left H := { results := [], args := [] }

/-- 'zzlaws_root_b1.FnBlockCommentEndsWhereTheCommentCloses': WHATEVER THE INPUT: true; the input reads as it did. -/
def fnBlockCommentEndsWhereTheCommentClosesSpec : ChangeSpec := { name := "fnBlockCommentEndsWhereTheCommentCloses", fn := fun _ => fun
  | [d1, d2, d3, d4, d5, d6, d7, d8, d9, d10] => { results := [.lit (.bool true)], args := [d1, d2, d3, d4, d5, d6, d7, d8, d9, d10] }
  | _ => none }
def fnBlockCommentEndsWhereTheCommentClosesRow : OpenClaim := { program := "qxb6603871a", sum := "4d815a9b27154d11fafe42538fbdf4b827724c406c714ce449e5bb52c0b480bb", func := "example.com/foldtx/foldtx/zzlaws_root_b1.FnBlockCommentEndsWhereTheCommentCloses", spec := "fnBlockCommentEndsWhereTheCommentCloses", inPlace := ["internal/bytealg.IndexByteString", "internal/bytealg.IndexString"], recurses := true, named := ["internal/bytealg.MaxLen"], apart := false }
def FnBlockCommentEndsWhereTheCommentClosesSaid : Prop := fnBlockCommentEndsWhereTheCommentClosesRow.holds Try.pinned (OpenSpec.ofChange fnBlockCommentEndsWhereTheCommentClosesSpec)

/-- ITS FALSE NEIGHBOUR: 'it returns false'. Refute it at one input. -/
def fnBlockCommentEndsWhereTheCommentClosesWrong : ChangeSpec := { name := "fnBlockCommentEndsWhereTheCommentCloses", fn := fun _ => fun
  | [d1, d2, d3, d4, d5, d6, d7, d8, d9, d10] => { results := [.lit (.bool false)], args := [d1, d2, d3, d4, d5, d6, d7, d8, d9, d10] }
  | _ => none }
def FnBlockCommentEndsWhereTheCommentClosesWrongFalsely : Prop := fnBlockCommentEndsWhereTheCommentClosesRow.holds Try.pinned (OpenSpec.ofChange fnBlockCommentEndsWhereTheCommentClosesWrong)

end Rows
end Go.Proofs.Qxb6603871a
