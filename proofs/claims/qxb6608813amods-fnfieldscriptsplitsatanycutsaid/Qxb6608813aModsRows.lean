/-
  No cell of these rows narrows 'for every input' (looked for: loops, veiled, ifaces, maps, wideKeys, modest, calm, conditions, laid).
  DERIVED. THE GIVEN ROWS OF THIS SEAT. 4 by the template 'for every input the law returns true; each argument reads behind the call as it read before'; 0 by the template 'total and deterministic' (their statements: Qxb6608813aModsTotals.lean).
  GIVEN WITH THE SEED: the statements are not yours to turn. If you find one false, say at which input.
  Laid BY PROGRAM, IN A SANDBOX (cutbox-rows.mjs): the forced cells as the released guide's own fill.sh prints them over the translation c0cd98a2ebe3c481… (all of the seat's roots in one cut). By AI agents, Wed Nov 11 2026. No macro, syntax, notation, axiom, sorry.
-/
import Derived.Test.Qxb6608813aModsChecked
import GoSem.Claim
import GoSem.ClaimJoined
import GoSem.ClaimMapViews
import Derived.JoinedTies
import Derived.KernelRfl
namespace Go.Proofs.Qxb6608813aMods
/- THE CELL 'sum', in the pinned program and in every row, IS THE sha256 OF THE DUMP (.gsa) THAT Qxb6608813aModsProg.lean LOADS. Nothing in Lean hashes anything: it is a label: what it is worth is what the hold of that sum in a sandbox is worth. -/
noncomputable def Trym.pinned : Pinned := { name := "qxb6608813amods", sum := "c0cd98a2ebe3c4811881569bd7e41ced4d42dd5a38e56de873ce88ffa770d7b0", checked := Trym.checked }
namespace Rows
def none {H : Type} : Left H := { results := [], args := [] }

/-- 'zzlaws_root_b1.FnFieldScriptWritesCommaSeparatedMembers': WHATEVER THE INPUT: true; the input reads as it did. -/
def fnFieldScriptWritesCommaSeparatedMembersSpec : ChangeSpec := { name := "fnFieldScriptWritesCommaSeparatedMembers", fn := fun _ => fun
  | [d1, d2, d3, d4, d5, d6, d7] => { results := [.lit (.bool true)], args := [d1, d2, d3, d4, d5, d6, d7] }
  | _ => none }
def fnFieldScriptWritesCommaSeparatedMembersRow : OpenClaim := { program := "qxb6608813amods", sum := "c0cd98a2ebe3c4811881569bd7e41ced4d42dd5a38e56de873ce88ffa770d7b0", func := "example.com/blockwend/blockwend/zzlaws_root_b1.FnFieldScriptWritesCommaSeparatedMembers", spec := "fnFieldScriptWritesCommaSeparatedMembers", make := .lifted ["publicsums"], apart := false }
def FnFieldScriptWritesCommaSeparatedMembersSaid : Prop := fnFieldScriptWritesCommaSeparatedMembersRow.holds Trym.pinned (OpenSpec.ofChange fnFieldScriptWritesCommaSeparatedMembersSpec)

/-- ITS FALSE NEIGHBOUR: 'it returns false'. Refute it at one input. -/
def fnFieldScriptWritesCommaSeparatedMembersWrong : ChangeSpec := { name := "fnFieldScriptWritesCommaSeparatedMembers", fn := fun _ => fun
  | [d1, d2, d3, d4, d5, d6, d7] => { results := [.lit (.bool false)], args := [d1, d2, d3, d4, d5, d6, d7] }
  | _ => none }
def FnFieldScriptWritesCommaSeparatedMembersWrongFalsely : Prop := fnFieldScriptWritesCommaSeparatedMembersRow.holds Trym.pinned (OpenSpec.ofChange fnFieldScriptWritesCommaSeparatedMembersWrong)

/-- 'zzlaws_root_b1.FnFieldScriptSplitsAtAnyCut': WHATEVER THE INPUT: true; the input reads as it did. -/
def fnFieldScriptSplitsAtAnyCutSpec : ChangeSpec := { name := "fnFieldScriptSplitsAtAnyCut", fn := fun _ => fun
  | [d1, d2, d3, d4, d5, d6, d7, d8] => { results := [.lit (.bool true)], args := [d1, d2, d3, d4, d5, d6, d7, d8] }
  | _ => none }
def fnFieldScriptSplitsAtAnyCutRow : OpenClaim := { program := "qxb6608813amods", sum := "c0cd98a2ebe3c4811881569bd7e41ced4d42dd5a38e56de873ce88ffa770d7b0", func := "example.com/blockwend/blockwend/zzlaws_root_b1.FnFieldScriptSplitsAtAnyCut", spec := "fnFieldScriptSplitsAtAnyCut", make := .lifted ["publicsums"], apart := false }
def FnFieldScriptSplitsAtAnyCutSaid : Prop := fnFieldScriptSplitsAtAnyCutRow.holds Trym.pinned (OpenSpec.ofChange fnFieldScriptSplitsAtAnyCutSpec)

/-- ITS FALSE NEIGHBOUR: 'it returns false'. Refute it at one input. -/
def fnFieldScriptSplitsAtAnyCutWrong : ChangeSpec := { name := "fnFieldScriptSplitsAtAnyCut", fn := fun _ => fun
  | [d1, d2, d3, d4, d5, d6, d7, d8] => { results := [.lit (.bool false)], args := [d1, d2, d3, d4, d5, d6, d7, d8] }
  | _ => none }
def FnFieldScriptSplitsAtAnyCutWrongFalsely : Prop := fnFieldScriptSplitsAtAnyCutRow.holds Trym.pinned (OpenSpec.ofChange fnFieldScriptSplitsAtAnyCutWrong)

/-- 'zzlaws_root_b1.FnRollBackKeepsShortestPrefixEndingAtP': WHATEVER THE INPUT: true; the input reads as it did. -/
def fnRollBackKeepsShortestPrefixEndingAtPSpec : ChangeSpec := { name := "fnRollBackKeepsShortestPrefixEndingAtP", fn := fun _ => fun
  | [d1, d2, d3, d4, d5, d6, d7, d8] => { results := [.lit (.bool true)], args := [d1, d2, d3, d4, d5, d6, d7, d8] }
  | _ => none }
def fnRollBackKeepsShortestPrefixEndingAtPRow : OpenClaim := { program := "qxb6608813amods", sum := "c0cd98a2ebe3c4811881569bd7e41ced4d42dd5a38e56de873ce88ffa770d7b0", func := "example.com/blockwend/blockwend/zzlaws_root_b1.FnRollBackKeepsShortestPrefixEndingAtP", spec := "fnRollBackKeepsShortestPrefixEndingAtP", unfollowed := true, recurses := true, make := .lifted ["publicsums"], apart := false }
def FnRollBackKeepsShortestPrefixEndingAtPSaid : Prop := fnRollBackKeepsShortestPrefixEndingAtPRow.holds Trym.pinned (OpenSpec.ofChange fnRollBackKeepsShortestPrefixEndingAtPSpec)

/-- ITS FALSE NEIGHBOUR: 'it returns false'. Refute it at one input. -/
def fnRollBackKeepsShortestPrefixEndingAtPWrong : ChangeSpec := { name := "fnRollBackKeepsShortestPrefixEndingAtP", fn := fun _ => fun
  | [d1, d2, d3, d4, d5, d6, d7, d8] => { results := [.lit (.bool false)], args := [d1, d2, d3, d4, d5, d6, d7, d8] }
  | _ => none }
def FnRollBackKeepsShortestPrefixEndingAtPWrongFalsely : Prop := fnRollBackKeepsShortestPrefixEndingAtPRow.holds Trym.pinned (OpenSpec.ofChange fnRollBackKeepsShortestPrefixEndingAtPWrong)

/-- 'zzlaws_root_b1.FnRollBackToEarlierAfterRollBackEqualsDirect': WHATEVER THE INPUT: true; the input reads as it did. -/
def fnRollBackToEarlierAfterRollBackEqualsDirectSpec : ChangeSpec := { name := "fnRollBackToEarlierAfterRollBackEqualsDirect", fn := fun _ => fun
  | [d1, d2, d3, d4, d5, d6, d7, d8, d9] => { results := [.lit (.bool true)], args := [d1, d2, d3, d4, d5, d6, d7, d8, d9] }
  | _ => none }
def fnRollBackToEarlierAfterRollBackEqualsDirectRow : OpenClaim := { program := "qxb6608813amods", sum := "c0cd98a2ebe3c4811881569bd7e41ced4d42dd5a38e56de873ce88ffa770d7b0", func := "example.com/blockwend/blockwend/zzlaws_root_b1.FnRollBackToEarlierAfterRollBackEqualsDirect", spec := "fnRollBackToEarlierAfterRollBackEqualsDirect", unfollowed := true, recurses := true, make := .lifted ["publicsums"], apart := false }
def FnRollBackToEarlierAfterRollBackEqualsDirectSaid : Prop := fnRollBackToEarlierAfterRollBackEqualsDirectRow.holds Trym.pinned (OpenSpec.ofChange fnRollBackToEarlierAfterRollBackEqualsDirectSpec)

/-- ITS FALSE NEIGHBOUR: 'it returns false'. Refute it at one input. -/
def fnRollBackToEarlierAfterRollBackEqualsDirectWrong : ChangeSpec := { name := "fnRollBackToEarlierAfterRollBackEqualsDirect", fn := fun _ => fun
  | [d1, d2, d3, d4, d5, d6, d7, d8, d9] => { results := [.lit (.bool false)], args := [d1, d2, d3, d4, d5, d6, d7, d8, d9] }
  | _ => none }
def FnRollBackToEarlierAfterRollBackEqualsDirectWrongFalsely : Prop := fnRollBackToEarlierAfterRollBackEqualsDirectRow.holds Trym.pinned (OpenSpec.ofChange fnRollBackToEarlierAfterRollBackEqualsDirectWrong)

end Rows
end Go.Proofs.Qxb6608813aMods
