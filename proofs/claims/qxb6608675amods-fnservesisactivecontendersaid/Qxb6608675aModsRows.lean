/-
  No cell of these rows narrows 'for every input' (looked for: loops, veiled, ifaces, maps, wideKeys, modest, calm, conditions, laid).
  DERIVED. THE GIVEN ROWS OF THIS SEAT. 4 by the template 'for every input the law returns true; each argument reads behind the call as it read before'; 0 by the template 'total and deterministic' (their statements: Qxb6608675aModsTotals.lean).
  GIVEN WITH THE SEED: the statements are not yours to turn. If you find one false, say at which input.
  Laid BY PROGRAM, IN A SANDBOX (cutbox-rows.mjs): the forced cells as the released guide's own fill.sh prints them over the translation 0b655a215e152286… (all of the seat's roots in one cut). By AI agents, Wed Nov 11 2026. No macro, syntax, notation, axiom, sorry.
-/
import Derived.Test.Qxb6608675aModsChecked
import GoSem.Claim
import GoSem.ClaimJoined
import GoSem.ClaimMapViews
import Derived.JoinedTies
import Derived.KernelRfl
namespace Go.Proofs.Qxb6608675aMods
/- THE CELL 'sum', in the pinned program and in every row, IS THE sha256 OF THE DUMP (.gsa) THAT Qxb6608675aModsProg.lean LOADS. Nothing in Lean hashes anything: it is a label: what it is worth is what the hold of that sum in a sandbox is worth. -/
noncomputable def Trym.pinned : Pinned := { name := "qxb6608675amods", sum := "0b655a215e1522865fb2aba4026727016dc59090852a067e84cd7a5650263cbd", checked := Trym.checked }
namespace Rows
def none {H : Type} : Left H := { results := [], args := [] }

/-- 'zzlaws_internal_cluster_b1.FnPlaceBalancedCopiesAndLeaders': WHATEVER THE INPUT: true; the input reads as it did. -/
def fnPlaceBalancedCopiesAndLeadersSpec : ChangeSpec := { name := "fnPlaceBalancedCopiesAndLeaders", fn := fun _ => fun
  | [d1, d2, d3, d4] => { results := [.lit (.bool true)], args := [d1, d2, d3, d4] }
  | _ => none }
def fnPlaceBalancedCopiesAndLeadersRow : OpenClaim := { program := "qxb6608675amods", sum := "0b655a215e1522865fb2aba4026727016dc59090852a067e84cd7a5650263cbd", func := "example.com/shardwarden/shardwarden/zzlaws_internal_cluster_b1.FnPlaceBalancedCopiesAndLeaders", spec := "fnPlaceBalancedCopiesAndLeaders", unfollowed := true, recurses := true, make := .lifted ["publicsums"], apart := false }
def FnPlaceBalancedCopiesAndLeadersSaid : Prop := fnPlaceBalancedCopiesAndLeadersRow.holds Trym.pinned (OpenSpec.ofChange fnPlaceBalancedCopiesAndLeadersSpec)

/-- ITS FALSE NEIGHBOUR: 'it returns false'. Refute it at one input. -/
def fnPlaceBalancedCopiesAndLeadersWrong : ChangeSpec := { name := "fnPlaceBalancedCopiesAndLeaders", fn := fun _ => fun
  | [d1, d2, d3, d4] => { results := [.lit (.bool false)], args := [d1, d2, d3, d4] }
  | _ => none }
def FnPlaceBalancedCopiesAndLeadersWrongFalsely : Prop := fnPlaceBalancedCopiesAndLeadersRow.holds Trym.pinned (OpenSpec.ofChange fnPlaceBalancedCopiesAndLeadersWrong)

/-- 'zzlaws_internal_cluster_b1.FnPlacePrefixKeepsCopies': WHATEVER THE INPUT: true; the input reads as it did. -/
def fnPlacePrefixKeepsCopiesSpec : ChangeSpec := { name := "fnPlacePrefixKeepsCopies", fn := fun _ => fun
  | [d1, d2, d3, d4, d5] => { results := [.lit (.bool true)], args := [d1, d2, d3, d4, d5] }
  | _ => none }
def fnPlacePrefixKeepsCopiesRow : OpenClaim := { program := "qxb6608675amods", sum := "0b655a215e1522865fb2aba4026727016dc59090852a067e84cd7a5650263cbd", func := "example.com/shardwarden/shardwarden/zzlaws_internal_cluster_b1.FnPlacePrefixKeepsCopies", spec := "fnPlacePrefixKeepsCopies", unfollowed := true, recurses := true, make := .lifted ["publicsums"], apart := false }
def FnPlacePrefixKeepsCopiesSaid : Prop := fnPlacePrefixKeepsCopiesRow.holds Trym.pinned (OpenSpec.ofChange fnPlacePrefixKeepsCopiesSpec)

/-- ITS FALSE NEIGHBOUR: 'it returns false'. Refute it at one input. -/
def fnPlacePrefixKeepsCopiesWrong : ChangeSpec := { name := "fnPlacePrefixKeepsCopies", fn := fun _ => fun
  | [d1, d2, d3, d4, d5] => { results := [.lit (.bool false)], args := [d1, d2, d3, d4, d5] }
  | _ => none }
def FnPlacePrefixKeepsCopiesWrongFalsely : Prop := fnPlacePrefixKeepsCopiesRow.holds Trym.pinned (OpenSpec.ofChange fnPlacePrefixKeepsCopiesWrong)

/-- 'zzlaws_internal_cluster_b1.FnServesIsActiveContender': WHATEVER THE INPUT: true; the input reads as it did. -/
def fnServesIsActiveContenderSpec : ChangeSpec := { name := "fnServesIsActiveContender", fn := fun _ => fun
  | [d1, d2] => { results := [.lit (.bool true)], args := [d1, d2] }
  | _ => none }
def fnServesIsActiveContenderRow : OpenClaim := { program := "qxb6608675amods", sum := "0b655a215e1522865fb2aba4026727016dc59090852a067e84cd7a5650263cbd", func := "example.com/shardwarden/shardwarden/zzlaws_internal_cluster_b1.FnServesIsActiveContender", spec := "fnServesIsActiveContender", make := .lifted ["publicsums"], apart := false }
def FnServesIsActiveContenderSaid : Prop := fnServesIsActiveContenderRow.holds Trym.pinned (OpenSpec.ofChange fnServesIsActiveContenderSpec)

/-- ITS FALSE NEIGHBOUR: 'it returns false'. Refute it at one input. -/
def fnServesIsActiveContenderWrong : ChangeSpec := { name := "fnServesIsActiveContender", fn := fun _ => fun
  | [d1, d2] => { results := [.lit (.bool false)], args := [d1, d2] }
  | _ => none }
def FnServesIsActiveContenderWrongFalsely : Prop := fnServesIsActiveContenderRow.holds Trym.pinned (OpenSpec.ofChange fnServesIsActiveContenderWrong)

/-- 'zzlaws_internal_cluster_b1.FnServesAfterTermRaised': WHATEVER THE INPUT: true; the input reads as it did. -/
def fnServesAfterTermRaisedSpec : ChangeSpec := { name := "fnServesAfterTermRaised", fn := fun _ => fun
  | [d1, d2] => { results := [.lit (.bool true)], args := [d1, d2] }
  | _ => none }
def fnServesAfterTermRaisedRow : OpenClaim := { program := "qxb6608675amods", sum := "0b655a215e1522865fb2aba4026727016dc59090852a067e84cd7a5650263cbd", func := "example.com/shardwarden/shardwarden/zzlaws_internal_cluster_b1.FnServesAfterTermRaised", spec := "fnServesAfterTermRaised", make := .lifted ["publicsums"], apart := false }
def FnServesAfterTermRaisedSaid : Prop := fnServesAfterTermRaisedRow.holds Trym.pinned (OpenSpec.ofChange fnServesAfterTermRaisedSpec)

/-- ITS FALSE NEIGHBOUR: 'it returns false'. Refute it at one input. -/
def fnServesAfterTermRaisedWrong : ChangeSpec := { name := "fnServesAfterTermRaised", fn := fun _ => fun
  | [d1, d2] => { results := [.lit (.bool false)], args := [d1, d2] }
  | _ => none }
def FnServesAfterTermRaisedWrongFalsely : Prop := fnServesAfterTermRaisedRow.holds Trym.pinned (OpenSpec.ofChange fnServesAfterTermRaisedWrong)

end Rows
end Go.Proofs.Qxb6608675aMods
