/-
  No cell of these rows narrows 'for every input' (looked for: loops, veiled, ifaces, maps, wideKeys, modest, calm, conditions, laid).
  DERIVED. THE GIVEN ROWS OF THIS SEAT. 2 by the template 'for every input the law returns true; each argument reads behind the call as it read before'; 0 by the template 'total and deterministic' (their statements: Qxb6603907aTotals.lean).
  GIVEN WITH THE SEED: the statements are not yours to turn. If you find one false, say at which input.
  Laid BY PROGRAM, IN A SANDBOX (cutbox-rows.mjs): the forced cells as the released guide's own fill.sh prints them over the translation 5644ce7e7cb1d80b… (all of the seat's roots in one cut). By AI agents, Wed Nov 11 2026. No macro, syntax, notation, axiom, sorry.
-/
import Derived.Test.Qxb6603907aChecked
import GoSem.Claim
import GoSem.ClaimJoined
import GoSem.ClaimMapViews
import Derived.JoinedTies
import Derived.KernelRfl
namespace Go.Proofs.Qxb6603907a
/- THE CELL 'sum', in the pinned program and in every row, IS THE sha256 OF THE DUMP (.gsa) THAT Qxb6603907aProg.lean LOADS. Nothing in Lean hashes anything: it is a label: what it is worth is what the hold of that sum in a sandbox is worth. -/
noncomputable def Try.pinned : Pinned := { name := "qxb6603907a", sum := "5644ce7e7cb1d80bd81270ec6130ad2fc89946aa62278a40811f23507501eab3", checked := Try.checked }
namespace Rows
def none {H : Type} : Left H := { results := [], args := [] }

/-- 'zzlaws_root_b1.FnWordBlocksScriptMatchesModel': WHATEVER THE INPUT: true; the input reads as it did. -/
def fnWordBlocksScriptMatchesModelSpec : ChangeSpec := { name := "fnWordBlocksScriptMatchesModel", fn := fun _ => fun
  | [d1, d2, d3, d4] => { results := [.lit (.bool true)], args := [d1, d2, d3, d4] }
  | _ => none }
def fnWordBlocksScriptMatchesModelRow : OpenClaim := { program := "qxb6603907a", sum := "5644ce7e7cb1d80bd81270ec6130ad2fc89946aa62278a40811f23507501eab3", func := "example.com/tally-by-window/tally-by-window/zzlaws_root_b1.FnWordBlocksScriptMatchesModel", spec := "fnWordBlocksScriptMatchesModel", apart := false }
def FnWordBlocksScriptMatchesModelSaid : Prop := fnWordBlocksScriptMatchesModelRow.holds Try.pinned (OpenSpec.ofChange fnWordBlocksScriptMatchesModelSpec)

/-- ITS FALSE NEIGHBOUR: 'it returns false'. Refute it at one input. -/
def fnWordBlocksScriptMatchesModelWrong : ChangeSpec := { name := "fnWordBlocksScriptMatchesModel", fn := fun _ => fun
  | [d1, d2, d3, d4] => { results := [.lit (.bool false)], args := [d1, d2, d3, d4] }
  | _ => none }
def FnWordBlocksScriptMatchesModelWrongFalsely : Prop := fnWordBlocksScriptMatchesModelRow.holds Try.pinned (OpenSpec.ofChange fnWordBlocksScriptMatchesModelWrong)

/-- 'zzlaws_root_b1.FnWordBlocksClassesApart': WHATEVER THE INPUT: true; the input reads as it did. -/
def fnWordBlocksClassesApartSpec : ChangeSpec := { name := "fnWordBlocksClassesApart", fn := fun _ => fun
  | [d1, d2, d3, d4, d5, d6, d7] => { results := [.lit (.bool true)], args := [d1, d2, d3, d4, d5, d6, d7] }
  | _ => none }
def fnWordBlocksClassesApartRow : OpenClaim := { program := "qxb6603907a", sum := "5644ce7e7cb1d80bd81270ec6130ad2fc89946aa62278a40811f23507501eab3", func := "example.com/tally-by-window/tally-by-window/zzlaws_root_b1.FnWordBlocksClassesApart", spec := "fnWordBlocksClassesApart", apart := false }
def FnWordBlocksClassesApartSaid : Prop := fnWordBlocksClassesApartRow.holds Try.pinned (OpenSpec.ofChange fnWordBlocksClassesApartSpec)

/-- ITS FALSE NEIGHBOUR: 'it returns false'. Refute it at one input. -/
def fnWordBlocksClassesApartWrong : ChangeSpec := { name := "fnWordBlocksClassesApart", fn := fun _ => fun
  | [d1, d2, d3, d4, d5, d6, d7] => { results := [.lit (.bool false)], args := [d1, d2, d3, d4, d5, d6, d7] }
  | _ => none }
def FnWordBlocksClassesApartWrongFalsely : Prop := fnWordBlocksClassesApartRow.holds Try.pinned (OpenSpec.ofChange fnWordBlocksClassesApartWrong)

end Rows
end Go.Proofs.Qxb6603907a
