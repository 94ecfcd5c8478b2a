/-
  No cell of these rows narrows 'for every input' (looked for: loops, veiled, ifaces, maps, wideKeys, modest, calm, conditions, laid).
  DERIVED. THE GIVEN ROWS OF THIS SEAT. 2 by the template 'for every input the law returns true; each argument reads behind the call as it read before'; 0 by the template 'total and deterministic' (their statements: Qxb6604015aTotals.lean).
  GIVEN WITH THE SEED: the statements are not yours to turn. If you find one false, say at which input.
  Laid BY PROGRAM, IN A SANDBOX (cutbox-rows.mjs): the forced cells as the released guide's own fill.sh prints them over the translation 4ca1122a9929c6a7… (all of the seat's roots in one cut). By AI agents, Wed Nov 11 2026. No macro, syntax, notation, axiom, sorry.
-/
import Derived.Test.Qxb6604015aChecked
import GoSem.Claim
import GoSem.ClaimJoined
import GoSem.ClaimMapViews
import Derived.JoinedTies
import Derived.KernelRfl
namespace Go.Proofs.Qxb6604015a
/- THE CELL 'sum', in the pinned program and in every row, IS THE sha256 OF THE DUMP (.gsa) THAT Qxb6604015aProg.lean LOADS. Nothing in Lean hashes anything: it is a label: what it is worth is what the hold of that sum in a sandbox is worth. -/
noncomputable def Try.pinned : Pinned := { name := "qxb6604015a", sum := "4ca1122a9929c6a7a65341a3fb3994ebe0e28fce9a89769276fd2495f6a7bbae", checked := Try.checked }
namespace Rows
def none {H : Type} : Left H := { results := [], args := [] }

/-- 'zzlaws_ri_b1.FnCutQuotedSpec': WHATEVER THE INPUT: true; the input reads as it did. -/
def fnCutQuotedSpecSpec : ChangeSpec := { name := "fnCutQuotedSpec", fn := fun _ => fun
  | [d] => { results := [.lit (.bool true)], args := [d] }
  | _ => none }
def fnCutQuotedSpecRow : OpenClaim := { program := "qxb6604015a", sum := "4ca1122a9929c6a7a65341a3fb3994ebe0e28fce9a89769276fd2495f6a7bbae", func := "example.com/crossway/crossway/zzlaws_ri_b1.FnCutQuotedSpec", spec := "fnCutQuotedSpec", inPlace := ["internal/abi.NoEscape"], apart := false }
def FnCutQuotedSpecSaid : Prop := fnCutQuotedSpecRow.holds Try.pinned (OpenSpec.ofChange fnCutQuotedSpecSpec)

/-- ITS FALSE NEIGHBOUR: 'it returns false'. Refute it at one input. -/
def fnCutQuotedSpecWrong : ChangeSpec := { name := "fnCutQuotedSpec", fn := fun _ => fun
  | [d] => { results := [.lit (.bool false)], args := [d] }
  | _ => none }
def FnCutQuotedSpecWrongFalsely : Prop := fnCutQuotedSpecRow.holds Try.pinned (OpenSpec.ofChange fnCutQuotedSpecWrong)

/-- 'zzlaws_ri_b1.FnCutQuotedRoundTrip': WHATEVER THE INPUT: true; the input reads as it did. -/
def fnCutQuotedRoundTripSpec : ChangeSpec := { name := "fnCutQuotedRoundTrip", fn := fun _ => fun
  | [d1, d2, d3] => { results := [.lit (.bool true)], args := [d1, d2, d3] }
  | _ => none }
def fnCutQuotedRoundTripRow : OpenClaim := { program := "qxb6604015a", sum := "4ca1122a9929c6a7a65341a3fb3994ebe0e28fce9a89769276fd2495f6a7bbae", func := "example.com/crossway/crossway/zzlaws_ri_b1.FnCutQuotedRoundTrip", spec := "fnCutQuotedRoundTrip", inPlace := ["internal/abi.NoEscape"], apart := false }
def FnCutQuotedRoundTripSaid : Prop := fnCutQuotedRoundTripRow.holds Try.pinned (OpenSpec.ofChange fnCutQuotedRoundTripSpec)

/-- ITS FALSE NEIGHBOUR: 'it returns false'. Refute it at one input. -/
def fnCutQuotedRoundTripWrong : ChangeSpec := { name := "fnCutQuotedRoundTrip", fn := fun _ => fun
  | [d1, d2, d3] => { results := [.lit (.bool false)], args := [d1, d2, d3] }
  | _ => none }
def FnCutQuotedRoundTripWrongFalsely : Prop := fnCutQuotedRoundTripRow.holds Try.pinned (OpenSpec.ofChange fnCutQuotedRoundTripWrong)

end Rows
end Go.Proofs.Qxb6604015a
