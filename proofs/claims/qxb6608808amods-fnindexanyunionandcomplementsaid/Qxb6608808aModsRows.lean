/-
  No cell of these rows narrows 'for every input' (looked for: loops, veiled, ifaces, maps, wideKeys, modest, calm, conditions, laid).
  DERIVED. THE GIVEN ROWS OF THIS SEAT. 2 by the template 'for every input the law returns true; each argument reads behind the call as it read before'; 0 by the template 'total and deterministic' (their statements: Qxb6608808aModsTotals.lean).
  GIVEN WITH THE SEED: the statements are not yours to turn. If you find one false, say at which input.
  Laid BY PROGRAM, IN A SANDBOX (cutbox-rows.mjs): the forced cells as the released guide's own fill.sh prints them over the translation 3c10773c28a91646… (all of the seat's roots in one cut). By AI agents, Wed Nov 11 2026. No macro, syntax, notation, axiom, sorry.
-/
import Derived.Test.Qxb6608808aModsChecked
import GoSem.Claim
import GoSem.ClaimJoined
import GoSem.ClaimMapViews
import Derived.JoinedTies
import Derived.KernelRfl
namespace Go.Proofs.Qxb6608808aMods
/- THE CELL 'sum', in the pinned program and in every row, IS THE sha256 OF THE DUMP (.gsa) THAT Qxb6608808aModsProg.lean LOADS. Nothing in Lean hashes anything: it is a label: what it is worth is what the hold of that sum in a sandbox is worth. -/
noncomputable def Trym.pinned : Pinned := { name := "qxb6608808amods", sum := "3c10773c28a91646d4a7da8a073981b5d63864c9f03168c2fb7d0046b04c6849", checked := Trym.checked }
namespace Rows
def none {H : Type} : Left H := { results := [], args := [] }

/-- 'zzlaws_internal_manifest_b1.FnIndexAnyOfJoin': WHATEVER THE INPUT: true; the input reads as it did. -/
def fnIndexAnyOfJoinSpec : ChangeSpec := { name := "fnIndexAnyOfJoin", fn := fun _ => fun
  | [d1, d2, d3] => { results := [.lit (.bool true)], args := [d1, d2, d3] }
  | _ => none }
def fnIndexAnyOfJoinRow : OpenClaim := { program := "qxb6608808amods", sum := "3c10773c28a91646d4a7da8a073981b5d63864c9f03168c2fb7d0046b04c6849", func := "example.com/portwarden/portwarden/zzlaws_internal_manifest_b1.FnIndexAnyOfJoin", spec := "fnIndexAnyOfJoin", make := .lifted ["publicsums"], apart := false }
def FnIndexAnyOfJoinSaid : Prop := fnIndexAnyOfJoinRow.holds Trym.pinned (OpenSpec.ofChange fnIndexAnyOfJoinSpec)

/-- ITS FALSE NEIGHBOUR: 'it returns false'. Refute it at one input. -/
def fnIndexAnyOfJoinWrong : ChangeSpec := { name := "fnIndexAnyOfJoin", fn := fun _ => fun
  | [d1, d2, d3] => { results := [.lit (.bool false)], args := [d1, d2, d3] }
  | _ => none }
def FnIndexAnyOfJoinWrongFalsely : Prop := fnIndexAnyOfJoinRow.holds Trym.pinned (OpenSpec.ofChange fnIndexAnyOfJoinWrong)

/-- 'zzlaws_internal_manifest_b1.FnIndexAnyUnionAndComplement': WHATEVER THE INPUT: true; the input reads as it did. -/
def fnIndexAnyUnionAndComplementSpec : ChangeSpec := { name := "fnIndexAnyUnionAndComplement", fn := fun _ => fun
  | [d1, d2, d3] => { results := [.lit (.bool true)], args := [d1, d2, d3] }
  | _ => none }
def fnIndexAnyUnionAndComplementRow : OpenClaim := { program := "qxb6608808amods", sum := "3c10773c28a91646d4a7da8a073981b5d63864c9f03168c2fb7d0046b04c6849", func := "example.com/portwarden/portwarden/zzlaws_internal_manifest_b1.FnIndexAnyUnionAndComplement", spec := "fnIndexAnyUnionAndComplement", make := .lifted ["publicsums"], apart := false }
def FnIndexAnyUnionAndComplementSaid : Prop := fnIndexAnyUnionAndComplementRow.holds Trym.pinned (OpenSpec.ofChange fnIndexAnyUnionAndComplementSpec)

/-- ITS FALSE NEIGHBOUR: 'it returns false'. Refute it at one input. -/
def fnIndexAnyUnionAndComplementWrong : ChangeSpec := { name := "fnIndexAnyUnionAndComplement", fn := fun _ => fun
  | [d1, d2, d3] => { results := [.lit (.bool false)], args := [d1, d2, d3] }
  | _ => none }
def FnIndexAnyUnionAndComplementWrongFalsely : Prop := fnIndexAnyUnionAndComplementRow.holds Trym.pinned (OpenSpec.ofChange fnIndexAnyUnionAndComplementWrong)

end Rows
end Go.Proofs.Qxb6608808aMods
