/-
  No cell of these rows narrows 'for every input' (looked for: loops, veiled, ifaces, maps, wideKeys, modest, calm, conditions, laid).
  DERIVED. THE GIVEN ROWS OF THIS SEAT. 2 by the template 'for every input the law returns true; each argument reads behind the call as it read before'; 0 by the template 'total and deterministic' (their statements: Qxb6605331aTotals.lean).
  GIVEN WITH THE SEED: the statements are not yours to turn. If you find one false, say at which input.
  Laid BY PROGRAM, IN A SANDBOX (cutbox-rows.mjs): the forced cells as the released guide's own fill.sh prints them over the translation 1e20fb3ec44297f1… (all of the seat's roots in one cut). By AI agents, Wed Nov 11 2026. No macro, syntax, notation, axiom, sorry.
-/
import Derived.Test.Qxb6605331aChecked
import GoSem.Claim
import GoSem.ClaimJoined
import GoSem.ClaimMapViews
import Derived.JoinedTies
import Derived.KernelRfl
namespace Go.Proofs.Qxb6605331a
/- THE CELL 'sum', in the pinned program and in every row, IS THE sha256 OF THE DUMP (.gsa) THAT Qxb6605331aProg.lean LOADS. Nothing in Lean hashes anything: it is a label: what it is worth is what the hold of that sum in a sandbox is worth. -/
noncomputable def Try.pinned : Pinned := { name := "qxb6605331a", sum := "1e20fb3ec44297f12cb2248f050a1873659a10aa2dfe2c0cf377863aecef7f86", checked := Try.checked }
namespace Rows
def none {H : Type} : Left H := { results := [], args := [] }

/-- 'zzlaws_authconfig_b1.FnFieldPathFoldIsDottedJoin': WHATEVER THE INPUT: true; the input reads as it did. -/
def fnFieldPathFoldIsDottedJoinSpec : ChangeSpec := { name := "fnFieldPathFoldIsDottedJoin", fn := fun _ => fun
  | [d] => { results := [.lit (.bool true)], args := [d] }
  | _ => none }
def fnFieldPathFoldIsDottedJoinRow : OpenClaim := { program := "qxb6605331a", sum := "1e20fb3ec44297f12cb2248f050a1873659a10aa2dfe2c0cf377863aecef7f86", func := "example.com/tesserid/tesserid/zzlaws_authconfig_b1.FnFieldPathFoldIsDottedJoin", spec := "fnFieldPathFoldIsDottedJoin", apart := false }
def FnFieldPathFoldIsDottedJoinSaid : Prop := fnFieldPathFoldIsDottedJoinRow.holds Try.pinned (OpenSpec.ofChange fnFieldPathFoldIsDottedJoinSpec)

/-- ITS FALSE NEIGHBOUR: 'it returns false'. Refute it at one input. -/
def fnFieldPathFoldIsDottedJoinWrong : ChangeSpec := { name := "fnFieldPathFoldIsDottedJoin", fn := fun _ => fun
  | [d] => { results := [.lit (.bool false)], args := [d] }
  | _ => none }
def FnFieldPathFoldIsDottedJoinWrongFalsely : Prop := fnFieldPathFoldIsDottedJoinRow.holds Try.pinned (OpenSpec.ofChange fnFieldPathFoldIsDottedJoinWrong)

/-- 'zzlaws_authconfig_b1.FnFieldPathNests': WHATEVER THE INPUT: true; the input reads as it did. -/
def fnFieldPathNestsSpec : ChangeSpec := { name := "fnFieldPathNests", fn := fun _ => fun
  | [d1, d2, d3] => { results := [.lit (.bool true)], args := [d1, d2, d3] }
  | _ => none }
def fnFieldPathNestsRow : OpenClaim := { program := "qxb6605331a", sum := "1e20fb3ec44297f12cb2248f050a1873659a10aa2dfe2c0cf377863aecef7f86", func := "example.com/tesserid/tesserid/zzlaws_authconfig_b1.FnFieldPathNests", spec := "fnFieldPathNests", apart := false }
def FnFieldPathNestsSaid : Prop := fnFieldPathNestsRow.holds Try.pinned (OpenSpec.ofChange fnFieldPathNestsSpec)

/-- ITS FALSE NEIGHBOUR: 'it returns false'. Refute it at one input. -/
def fnFieldPathNestsWrong : ChangeSpec := { name := "fnFieldPathNests", fn := fun _ => fun
  | [d1, d2, d3] => { results := [.lit (.bool false)], args := [d1, d2, d3] }
  | _ => none }
def FnFieldPathNestsWrongFalsely : Prop := fnFieldPathNestsRow.holds Try.pinned (OpenSpec.ofChange fnFieldPathNestsWrong)

end Rows
end Go.Proofs.Qxb6605331a
