/-
  No cell of these rows narrows 'for every input' (looked for: loops, veiled, ifaces, maps, wideKeys, modest, calm, conditions, laid).
  DERIVED. THE GIVEN ROWS OF THIS SEAT. 2 by the template 'for every input the law returns true; each argument reads behind the call as it read before'; 0 by the template 'total and deterministic' (their statements: Qxb6608994aModsTotals.lean).
  GIVEN WITH THE SEED: the statements are not yours to turn. If you find one false, say at which input.
  Laid BY PROGRAM, IN A SANDBOX (cutbox-rows.mjs): the forced cells as the released guide's own fill.sh prints them over the translation 02645ecb9c7b0999… (all of the seat's roots in one cut). By AI agents, Wed Nov 11 2026. No macro, syntax, notation, axiom, sorry.
-/
import Derived.Test.Qxb6608994aModsChecked
import GoSem.Claim
import GoSem.ClaimJoined
import GoSem.ClaimMapViews
import Derived.JoinedTies
import Derived.KernelRfl
namespace Go.Proofs.Qxb6608994aMods
/- THE CELL 'sum', in the pinned program and in every row, IS THE sha256 OF THE DUMP (.gsa) THAT Qxb6608994aModsProg.lean LOADS. Nothing in Lean hashes anything: it is a label: what it is worth is what the hold of that sum in a sandbox is worth. -/
noncomputable def Trym.pinned : Pinned := { name := "qxb6608994amods", sum := "02645ecb9c7b099940338f7aa6afe56eda7ca5aacc009a700aeba8a2d3414fa0", checked := Trym.checked }
namespace Rows
def none {H : Type} : Left H := { results := [], args := [] }

/-- 'zzlaws_store_b1.FnValidScopeJoin': WHATEVER THE INPUT: true; the input reads as it did. -/
def fnValidScopeJoinSpec : ChangeSpec := { name := "fnValidScopeJoin", fn := fun _ => fun
  | [d1, d2] => { results := [.lit (.bool true)], args := [d1, d2] }
  | _ => none }
def fnValidScopeJoinRow : OpenClaim := { program := "qxb6608994amods", sum := "02645ecb9c7b099940338f7aa6afe56eda7ca5aacc009a700aeba8a2d3414fa0", func := "example.com/ngress/ngress/zzlaws_store_b1.FnValidScopeJoin", spec := "fnValidScopeJoin", make := .lifted ["publicsums"], apart := false }
def FnValidScopeJoinSaid : Prop := fnValidScopeJoinRow.holds Trym.pinned (OpenSpec.ofChange fnValidScopeJoinSpec)

/-- ITS FALSE NEIGHBOUR: 'it returns false'. Refute it at one input. -/
def fnValidScopeJoinWrong : ChangeSpec := { name := "fnValidScopeJoin", fn := fun _ => fun
  | [d1, d2] => { results := [.lit (.bool false)], args := [d1, d2] }
  | _ => none }
def FnValidScopeJoinWrongFalsely : Prop := fnValidScopeJoinRow.holds Trym.pinned (OpenSpec.ofChange fnValidScopeJoinWrong)

/-- 'zzlaws_store_b1.FnValidScopeInsertRune': WHATEVER THE INPUT: true; the input reads as it did. -/
def fnValidScopeInsertRuneSpec : ChangeSpec := { name := "fnValidScopeInsertRune", fn := fun _ => fun
  | [d1, d2, d3] => { results := [.lit (.bool true)], args := [d1, d2, d3] }
  | _ => none }
def fnValidScopeInsertRuneRow : OpenClaim := { program := "qxb6608994amods", sum := "02645ecb9c7b099940338f7aa6afe56eda7ca5aacc009a700aeba8a2d3414fa0", func := "example.com/ngress/ngress/zzlaws_store_b1.FnValidScopeInsertRune", spec := "fnValidScopeInsertRune", make := .lifted ["publicsums"], apart := false }
def FnValidScopeInsertRuneSaid : Prop := fnValidScopeInsertRuneRow.holds Trym.pinned (OpenSpec.ofChange fnValidScopeInsertRuneSpec)

/-- ITS FALSE NEIGHBOUR: 'it returns false'. Refute it at one input. -/
def fnValidScopeInsertRuneWrong : ChangeSpec := { name := "fnValidScopeInsertRune", fn := fun _ => fun
  | [d1, d2, d3] => { results := [.lit (.bool false)], args := [d1, d2, d3] }
  | _ => none }
def FnValidScopeInsertRuneWrongFalsely : Prop := fnValidScopeInsertRuneRow.holds Trym.pinned (OpenSpec.ofChange fnValidScopeInsertRuneWrong)

end Rows
end Go.Proofs.Qxb6608994aMods
