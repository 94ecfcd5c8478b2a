/-
  No cell of these rows narrows 'for every input' (looked for: loops, veiled, ifaces, maps, wideKeys, modest, calm, conditions, laid).
  DERIVED. THE GIVEN ROWS OF THIS SEAT. 7 by the template 'for every input the law returns true; each argument reads behind the call as it read before'; 0 by the template 'total and deterministic' (their statements: Qxb6601028aTotals.lean).
  GIVEN WITH THE SEED: the statements are not yours to turn. If you find one false, say at which input.
  Laid BY PROGRAM, IN A SANDBOX (cutbox-rows.mjs): the forced cells as the released guide's own fill.sh prints them over the translation debcd69ad44f386b… (all of the seat's roots in one cut). By AI agents, Wed Nov 11 2026. No macro, syntax, notation, axiom, sorry.
-/
import Derived.Test.Qxb6601028aChecked
import GoSem.Claim
import GoSem.ClaimJoined
import GoSem.ClaimMapViews
import Derived.JoinedTies
import Derived.KernelRfl
namespace Go.Proofs.Qxb6601028a
/- THE CELL 'sum', in the pinned program and in every row, IS THE sha256 OF THE DUMP (.gsa) THAT Qxb6601028aProg.lean LOADS. Nothing in Lean hashes anything: it is a label: what it is worth is what the hold of that sum in a sandbox is worth. -/
noncomputable def Try.pinned : Pinned := { name := "qxb6601028a", sum := "debcd69ad44f386b7f9cbf44d6c0daabae1d726b8b2b7e39281e7c360977e1ea", checked := Try.checked }
namespace Rows
def none {H : Type} : Left H := { results := [], args := [] }

/-- 'zzlaws_pkg_yamlnode_b1.FnIsDecimalFloatMatchesAutomaton': WHATEVER THE INPUT: true; the input reads as it did. -/
def fnIsDecimalFloatMatchesAutomatonSpec : ChangeSpec := { name := "fnIsDecimalFloatMatchesAutomaton", fn := fun _ => fun
  | [d] => { results := [.lit (.bool true)], args := [d] }
  | _ => none }
def fnIsDecimalFloatMatchesAutomatonRow : OpenClaim := { program := "qxb6601028a", sum := "debcd69ad44f386b7f9cbf44d6c0daabae1d726b8b2b7e39281e7c360977e1ea", func := "example.com/layerd/layerd/zzlaws_pkg_yamlnode_b1.FnIsDecimalFloatMatchesAutomaton", spec := "fnIsDecimalFloatMatchesAutomaton", apart := false }
def FnIsDecimalFloatMatchesAutomatonSaid : Prop := fnIsDecimalFloatMatchesAutomatonRow.holds Try.pinned (OpenSpec.ofChange fnIsDecimalFloatMatchesAutomatonSpec)

/-- ITS FALSE NEIGHBOUR: 'it returns false'. Refute it at one input. -/
def fnIsDecimalFloatMatchesAutomatonWrong : ChangeSpec := { name := "fnIsDecimalFloatMatchesAutomaton", fn := fun _ => fun
  | [d] => { results := [.lit (.bool false)], args := [d] }
  | _ => none }
def FnIsDecimalFloatMatchesAutomatonWrongFalsely : Prop := fnIsDecimalFloatMatchesAutomatonRow.holds Try.pinned (OpenSpec.ofChange fnIsDecimalFloatMatchesAutomatonWrong)

/-- 'zzlaws_pkg_yamlnode_b1.FnIsDecimalFloatTakesOneSign': WHATEVER THE INPUT: true; the input reads as it did. -/
def fnIsDecimalFloatTakesOneSignSpec : ChangeSpec := { name := "fnIsDecimalFloatTakesOneSign", fn := fun _ => fun
  | [d] => { results := [.lit (.bool true)], args := [d] }
  | _ => none }
def fnIsDecimalFloatTakesOneSignRow : OpenClaim := { program := "qxb6601028a", sum := "debcd69ad44f386b7f9cbf44d6c0daabae1d726b8b2b7e39281e7c360977e1ea", func := "example.com/layerd/layerd/zzlaws_pkg_yamlnode_b1.FnIsDecimalFloatTakesOneSign", spec := "fnIsDecimalFloatTakesOneSign", apart := false }
def FnIsDecimalFloatTakesOneSignSaid : Prop := fnIsDecimalFloatTakesOneSignRow.holds Try.pinned (OpenSpec.ofChange fnIsDecimalFloatTakesOneSignSpec)

/-- ITS FALSE NEIGHBOUR: 'it returns false'. Refute it at one input. -/
def fnIsDecimalFloatTakesOneSignWrong : ChangeSpec := { name := "fnIsDecimalFloatTakesOneSign", fn := fun _ => fun
  | [d] => { results := [.lit (.bool false)], args := [d] }
  | _ => none }
def FnIsDecimalFloatTakesOneSignWrongFalsely : Prop := fnIsDecimalFloatTakesOneSignRow.holds Try.pinned (OpenSpec.ofChange fnIsDecimalFloatTakesOneSignWrong)

/-- 'zzlaws_pkg_yamlnode_b1.FnLeadingColonsFollowNearestLineRule': WHATEVER THE INPUT: true; the input reads as it did. -/
def fnLeadingColonsFollowNearestLineRuleSpec : ChangeSpec := { name := "fnLeadingColonsFollowNearestLineRule", fn := fun _ => fun
  | [d] => { results := [.lit (.bool true)], args := [d] }
  | _ => none }
def fnLeadingColonsFollowNearestLineRuleRow : OpenClaim := { program := "qxb6601028a", sum := "debcd69ad44f386b7f9cbf44d6c0daabae1d726b8b2b7e39281e7c360977e1ea", func := "example.com/layerd/layerd/zzlaws_pkg_yamlnode_b1.FnLeadingColonsFollowNearestLineRule", spec := "fnLeadingColonsFollowNearestLineRule", apart := false }
def FnLeadingColonsFollowNearestLineRuleSaid : Prop := fnLeadingColonsFollowNearestLineRuleRow.holds Try.pinned (OpenSpec.ofChange fnLeadingColonsFollowNearestLineRuleSpec)

/-- ITS FALSE NEIGHBOUR: 'it returns false'. Refute it at one input. -/
def fnLeadingColonsFollowNearestLineRuleWrong : ChangeSpec := { name := "fnLeadingColonsFollowNearestLineRule", fn := fun _ => fun
  | [d] => { results := [.lit (.bool false)], args := [d] }
  | _ => none }
def FnLeadingColonsFollowNearestLineRuleWrongFalsely : Prop := fnLeadingColonsFollowNearestLineRuleRow.holds Try.pinned (OpenSpec.ofChange fnLeadingColonsFollowNearestLineRuleWrong)

/-- 'zzlaws_pkg_yamlnode_b1.FnLeadingColonsSameUnderEveryEncoding': WHATEVER THE INPUT: true; the input reads as it did. -/
def fnLeadingColonsSameUnderEveryEncodingSpec : ChangeSpec := { name := "fnLeadingColonsSameUnderEveryEncoding", fn := fun _ => fun
  | [d] => { results := [.lit (.bool true)], args := [d] }
  | _ => none }
def fnLeadingColonsSameUnderEveryEncodingRow : OpenClaim := { program := "qxb6601028a", sum := "debcd69ad44f386b7f9cbf44d6c0daabae1d726b8b2b7e39281e7c360977e1ea", func := "example.com/layerd/layerd/zzlaws_pkg_yamlnode_b1.FnLeadingColonsSameUnderEveryEncoding", spec := "fnLeadingColonsSameUnderEveryEncoding", apart := false }
def FnLeadingColonsSameUnderEveryEncodingSaid : Prop := fnLeadingColonsSameUnderEveryEncodingRow.holds Try.pinned (OpenSpec.ofChange fnLeadingColonsSameUnderEveryEncodingSpec)

/-- ITS FALSE NEIGHBOUR: 'it returns false'. Refute it at one input. -/
def fnLeadingColonsSameUnderEveryEncodingWrong : ChangeSpec := { name := "fnLeadingColonsSameUnderEveryEncoding", fn := fun _ => fun
  | [d] => { results := [.lit (.bool false)], args := [d] }
  | _ => none }
def FnLeadingColonsSameUnderEveryEncodingWrongFalsely : Prop := fnLeadingColonsSameUnderEveryEncodingRow.holds Try.pinned (OpenSpec.ofChange fnLeadingColonsSameUnderEveryEncodingWrong)

/-- 'zzlaws_pkg_yamlnode_b1.FnAcceptVersionMatchesDirectiveModel': WHATEVER THE INPUT: true; the input reads as it did. -/
def fnAcceptVersionMatchesDirectiveModelSpec : ChangeSpec := { name := "fnAcceptVersionMatchesDirectiveModel", fn := fun _ => fun
  | [d] => { results := [.lit (.bool true)], args := [d] }
  | _ => none }
def fnAcceptVersionMatchesDirectiveModelRow : OpenClaim := { program := "qxb6601028a", sum := "debcd69ad44f386b7f9cbf44d6c0daabae1d726b8b2b7e39281e7c360977e1ea", func := "example.com/layerd/layerd/zzlaws_pkg_yamlnode_b1.FnAcceptVersionMatchesDirectiveModel", spec := "fnAcceptVersionMatchesDirectiveModel", inPlace := ["internal/abi.NoEscape", "internal/bytealg.MakeNoZero"], apart := false }
def FnAcceptVersionMatchesDirectiveModelSaid : Prop := fnAcceptVersionMatchesDirectiveModelRow.holds Try.pinned (OpenSpec.ofChange fnAcceptVersionMatchesDirectiveModelSpec)

/-- ITS FALSE NEIGHBOUR: 'it returns false'. Refute it at one input. -/
def fnAcceptVersionMatchesDirectiveModelWrong : ChangeSpec := { name := "fnAcceptVersionMatchesDirectiveModel", fn := fun _ => fun
  | [d] => { results := [.lit (.bool false)], args := [d] }
  | _ => none }
def FnAcceptVersionMatchesDirectiveModelWrongFalsely : Prop := fnAcceptVersionMatchesDirectiveModelRow.holds Try.pinned (OpenSpec.ofChange fnAcceptVersionMatchesDirectiveModelWrong)

/-- 'zzlaws_pkg_yamlnode_b1.FnAcceptVersionIdempotent': WHATEVER THE INPUT: true; the input reads as it did. -/
def fnAcceptVersionIdempotentSpec : ChangeSpec := { name := "fnAcceptVersionIdempotent", fn := fun _ => fun
  | [d] => { results := [.lit (.bool true)], args := [d] }
  | _ => none }
def fnAcceptVersionIdempotentRow : OpenClaim := { program := "qxb6601028a", sum := "debcd69ad44f386b7f9cbf44d6c0daabae1d726b8b2b7e39281e7c360977e1ea", func := "example.com/layerd/layerd/zzlaws_pkg_yamlnode_b1.FnAcceptVersionIdempotent", spec := "fnAcceptVersionIdempotent", inPlace := ["internal/abi.NoEscape", "internal/bytealg.MakeNoZero"], apart := false }
def FnAcceptVersionIdempotentSaid : Prop := fnAcceptVersionIdempotentRow.holds Try.pinned (OpenSpec.ofChange fnAcceptVersionIdempotentSpec)

/-- ITS FALSE NEIGHBOUR: 'it returns false'. Refute it at one input. -/
def fnAcceptVersionIdempotentWrong : ChangeSpec := { name := "fnAcceptVersionIdempotent", fn := fun _ => fun
  | [d] => { results := [.lit (.bool false)], args := [d] }
  | _ => none }
def FnAcceptVersionIdempotentWrongFalsely : Prop := fnAcceptVersionIdempotentRow.holds Try.pinned (OpenSpec.ofChange fnAcceptVersionIdempotentWrong)

/-- 'zzlaws_pkg_yamlnode_b1.FnAcceptVersionSameUnderEveryEncoding': WHATEVER THE INPUT: true; the input reads as it did. -/
def fnAcceptVersionSameUnderEveryEncodingSpec : ChangeSpec := { name := "fnAcceptVersionSameUnderEveryEncoding", fn := fun _ => fun
  | [d] => { results := [.lit (.bool true)], args := [d] }
  | _ => none }
def fnAcceptVersionSameUnderEveryEncodingRow : OpenClaim := { program := "qxb6601028a", sum := "debcd69ad44f386b7f9cbf44d6c0daabae1d726b8b2b7e39281e7c360977e1ea", func := "example.com/layerd/layerd/zzlaws_pkg_yamlnode_b1.FnAcceptVersionSameUnderEveryEncoding", spec := "fnAcceptVersionSameUnderEveryEncoding", inPlace := ["internal/abi.NoEscape", "internal/bytealg.MakeNoZero"], apart := false }
def FnAcceptVersionSameUnderEveryEncodingSaid : Prop := fnAcceptVersionSameUnderEveryEncodingRow.holds Try.pinned (OpenSpec.ofChange fnAcceptVersionSameUnderEveryEncodingSpec)

/-- ITS FALSE NEIGHBOUR: 'it returns false'. Refute it at one input. -/
def fnAcceptVersionSameUnderEveryEncodingWrong : ChangeSpec := { name := "fnAcceptVersionSameUnderEveryEncoding", fn := fun _ => fun
  | [d] => { results := [.lit (.bool false)], args := [d] }
  | _ => none }
def FnAcceptVersionSameUnderEveryEncodingWrongFalsely : Prop := fnAcceptVersionSameUnderEveryEncodingRow.holds Try.pinned (OpenSpec.ofChange fnAcceptVersionSameUnderEveryEncodingWrong)

end Rows
end Go.Proofs.Qxb6601028a
