/-
  No cell of these rows narrows 'for every input' (looked for: loops, veiled, ifaces, maps, wideKeys, modest, calm, conditions, laid).
  DERIVED. THE GIVEN ROWS OF THIS SEAT. 3 by the template 'for every input the law returns true; each argument reads behind the call as it read before'; 0 by the template 'total and deterministic' (their statements: Qxb6603889aTotals.lean).
  GIVEN WITH THE SEED: the statements are not yours to turn. If you find one false, say at which input.
  Laid BY PROGRAM, IN A SANDBOX (cutbox-rows.mjs): the forced cells as the released guide's own fill.sh prints them over the translation ce52ccec24c2cc28… (all of the seat's roots in one cut). By AI agents, Wed Nov 11 2026. No macro, syntax, notation, axiom, sorry.
-/
import Derived.Test.Qxb6603889aChecked
import GoSem.Claim
import GoSem.ClaimJoined
import GoSem.ClaimMapViews
import Derived.JoinedTies
import Derived.KernelRfl
namespace Go.Proofs.Qxb6603889a
/- THE CELL 'sum', in the pinned program and in every row, IS THE sha256 OF THE DUMP (.gsa) THAT Qxb6603889aProg.lean LOADS. Nothing in Lean hashes anything: it is a label: what it is worth is what the hold of that sum in a sandbox is worth. -/
noncomputable def Try.pinned : Pinned := { name := "qxb6603889a", sum := "ce52ccec24c2cc287f69531fb514b0eb39c2c194b2dfa3a67622f71e8361c5ea", checked := Try.checked }
namespace Rows
def none {H : Type} : Left H := { results := [], args := [] }

/-- 'zzlaws_pkg_yamlfile_b1.FnDigitsAcceptsRenderedNumbers': WHATEVER THE INPUT: true; the input reads as it did. -/
def fnDigitsAcceptsRenderedNumbersSpec : ChangeSpec := { name := "fnDigitsAcceptsRenderedNumbers", fn := fun _ => fun
  | [d] => { results := [.lit (.bool true)], args := [d] }
  | _ => none }
def fnDigitsAcceptsRenderedNumbersRow : OpenClaim := { program := "qxb6603889a", sum := "ce52ccec24c2cc287f69531fb514b0eb39c2c194b2dfa3a67622f71e8361c5ea", func := "example.com/vestwright/vestwright/zzlaws_pkg_yamlfile_b1.FnDigitsAcceptsRenderedNumbers", spec := "fnDigitsAcceptsRenderedNumbers", apart := false }
def FnDigitsAcceptsRenderedNumbersSaid : Prop := fnDigitsAcceptsRenderedNumbersRow.holds Try.pinned (OpenSpec.ofChange fnDigitsAcceptsRenderedNumbersSpec)

/-- ITS FALSE NEIGHBOUR: 'it returns false'. Refute it at one input. -/
def fnDigitsAcceptsRenderedNumbersWrong : ChangeSpec := { name := "fnDigitsAcceptsRenderedNumbers", fn := fun _ => fun
  | [d] => { results := [.lit (.bool false)], args := [d] }
  | _ => none }
def FnDigitsAcceptsRenderedNumbersWrongFalsely : Prop := fnDigitsAcceptsRenderedNumbersRow.holds Try.pinned (OpenSpec.ofChange fnDigitsAcceptsRenderedNumbersWrong)

/-- 'zzlaws_pkg_yamlfile_b1.FnFlowReadBracketBalance': WHATEVER THE INPUT: true; the input reads as it did. -/
def fnFlowReadBracketBalanceSpec : ChangeSpec := { name := "fnFlowReadBracketBalance", fn := fun _ => fun
  | [d1, d2, d3, d4] => { results := [.lit (.bool true)], args := [d1, d2, d3, d4] }
  | _ => none }
def fnFlowReadBracketBalanceRow : OpenClaim := { program := "qxb6603889a", sum := "ce52ccec24c2cc287f69531fb514b0eb39c2c194b2dfa3a67622f71e8361c5ea", func := "example.com/vestwright/vestwright/zzlaws_pkg_yamlfile_b1.FnFlowReadBracketBalance", spec := "fnFlowReadBracketBalance", inPlace := ["internal/bytealg.IndexByteString", "internal/bytealg.IndexByte"], apart := false }
def FnFlowReadBracketBalanceSaid : Prop := fnFlowReadBracketBalanceRow.holds Try.pinned (OpenSpec.ofChange fnFlowReadBracketBalanceSpec)

/-- ITS FALSE NEIGHBOUR: 'it returns false'. Refute it at one input. -/
def fnFlowReadBracketBalanceWrong : ChangeSpec := { name := "fnFlowReadBracketBalance", fn := fun _ => fun
  | [d1, d2, d3, d4] => { results := [.lit (.bool false)], args := [d1, d2, d3, d4] }
  | _ => none }
def FnFlowReadBracketBalanceWrongFalsely : Prop := fnFlowReadBracketBalanceRow.holds Try.pinned (OpenSpec.ofChange fnFlowReadBracketBalanceWrong)

/-- 'zzlaws_pkg_yamlfile_b1.FnFlowReadQuotedScalarsPassedWhole': WHATEVER THE INPUT: true; the input reads as it did. -/
def fnFlowReadQuotedScalarsPassedWholeSpec : ChangeSpec := { name := "fnFlowReadQuotedScalarsPassedWhole", fn := fun _ => fun
  | [d1, d2, d3, d4] => { results := [.lit (.bool true)], args := [d1, d2, d3, d4] }
  | _ => none }
def fnFlowReadQuotedScalarsPassedWholeRow : OpenClaim := { program := "qxb6603889a", sum := "ce52ccec24c2cc287f69531fb514b0eb39c2c194b2dfa3a67622f71e8361c5ea", func := "example.com/vestwright/vestwright/zzlaws_pkg_yamlfile_b1.FnFlowReadQuotedScalarsPassedWhole", spec := "fnFlowReadQuotedScalarsPassedWhole", inPlace := ["internal/bytealg.IndexByteString", "internal/bytealg.IndexByte"], apart := false }
def FnFlowReadQuotedScalarsPassedWholeSaid : Prop := fnFlowReadQuotedScalarsPassedWholeRow.holds Try.pinned (OpenSpec.ofChange fnFlowReadQuotedScalarsPassedWholeSpec)

/-- ITS FALSE NEIGHBOUR: 'it returns false'. Refute it at one input. -/
def fnFlowReadQuotedScalarsPassedWholeWrong : ChangeSpec := { name := "fnFlowReadQuotedScalarsPassedWhole", fn := fun _ => fun
  | [d1, d2, d3, d4] => { results := [.lit (.bool false)], args := [d1, d2, d3, d4] }
  | _ => none }
def FnFlowReadQuotedScalarsPassedWholeWrongFalsely : Prop := fnFlowReadQuotedScalarsPassedWholeRow.holds Try.pinned (OpenSpec.ofChange fnFlowReadQuotedScalarsPassedWholeWrong)

end Rows
end Go.Proofs.Qxb6603889a
