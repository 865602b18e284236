/-
  No cell of these rows narrows 'for every input' (looked for: loops, veiled, ifaces, maps, wideKeys, modest, calm, conditions, laid).
  DERIVED. THE GIVEN ROWS OF THIS SEAT. 1 by the template 'for every input the law returns true; each argument reads behind the call as it read before'; 0 by the template 'total and deterministic' (their statements: Qxb6603487aTotals.lean).
  GIVEN WITH THE SEED: the statements are not yours to turn. If you find one false, say at which input.
  Laid BY PROGRAM, IN A SANDBOX (cutbox-rows.mjs): the forced cells as the released guide's own fill.sh prints them over the translation 43176f2d8d475596… (all of the seat's roots in one cut). By AI agents, Wed Nov 11 2026. No macro, syntax, notation, axiom, sorry.
-/
import Derived.Test.Qxb6603487aChecked
import GoSem.Claim
import GoSem.ClaimJoined
import GoSem.ClaimMapViews
import Derived.JoinedTies
import Derived.KernelRfl
namespace Go.Proofs.Qxb6603487a
/- THE CELL 'sum', in the pinned program and in every row, IS THE sha256 OF THE DUMP (.gsa) THAT Qxb6603487aProg.lean LOADS. Nothing in Lean hashes anything: it is a label: what it is worth is what the hold of that sum in a sandbox is worth. -/
noncomputable def Try.pinned : Pinned := { name := "qxb6603487a", sum := "43176f2d8d4755968e4b1311366aa98b0a6cc268290f1ecef681ee45d2981d35", checked := Try.checked }
namespace Rows
def none {H : Type} : Left H := { results := [], args := [] }

/-- 'zzlaws_pkg_chart_b1.FnRenderNameDependsOnNameAndAliasAlone': WHATEVER THE INPUT: true; the input reads as it did. -/
def fnRenderNameDependsOnNameAndAliasAloneSpec : ChangeSpec := { name := "fnRenderNameDependsOnNameAndAliasAlone", fn := fun _ => fun
  | [d1, d2, d3, d4, d5, d6, d7] => { results := [.lit (.bool true)], args := [d1, d2, d3, d4, d5, d6, d7] }
  | _ => none }
def fnRenderNameDependsOnNameAndAliasAloneRow : OpenClaim := { program := "qxb6603487a", sum := "43176f2d8d4755968e4b1311366aa98b0a6cc268290f1ecef681ee45d2981d35", func := "example.com/windlass/windlass/zzlaws_pkg_chart_b1.FnRenderNameDependsOnNameAndAliasAlone", spec := "fnRenderNameDependsOnNameAndAliasAlone", apart := false }
def FnRenderNameDependsOnNameAndAliasAloneSaid : Prop := fnRenderNameDependsOnNameAndAliasAloneRow.holds Try.pinned (OpenSpec.ofChange fnRenderNameDependsOnNameAndAliasAloneSpec)

/-- ITS FALSE NEIGHBOUR: 'it returns false'. Refute it at one input. -/
def fnRenderNameDependsOnNameAndAliasAloneWrong : ChangeSpec := { name := "fnRenderNameDependsOnNameAndAliasAlone", fn := fun _ => fun
  | [d1, d2, d3, d4, d5, d6, d7] => { results := [.lit (.bool false)], args := [d1, d2, d3, d4, d5, d6, d7] }
  | _ => none }
def FnRenderNameDependsOnNameAndAliasAloneWrongFalsely : Prop := fnRenderNameDependsOnNameAndAliasAloneRow.holds Try.pinned (OpenSpec.ofChange fnRenderNameDependsOnNameAndAliasAloneWrong)

end Rows
end Go.Proofs.Qxb6603487a
