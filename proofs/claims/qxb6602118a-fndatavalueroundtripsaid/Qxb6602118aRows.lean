/-
  No cell of these rows narrows 'for every input' (looked for: loops, veiled, ifaces, maps, wideKeys, modest, calm, conditions, laid).
  DERIVED. THE GIVEN ROWS OF THIS SEAT. 1 by the template 'for every input the law returns true; each argument reads behind the call as it read before'; 0 by the template 'total and deterministic' (their statements: Qxb6602118aTotals.lean).
  GIVEN WITH THE SEED: the statements are not yours to turn. If you find one false, say at which input.
  Laid BY PROGRAM, IN A SANDBOX (cutbox-rows.mjs): the forced cells as the released guide's own fill.sh prints them over the translation ce43ad90b74555c6… (all of the seat's roots in one cut). By AI agents, Wed Nov 11 2026. No macro, syntax, notation, axiom, sorry.
-/
import Derived.Test.Qxb6602118aChecked
import GoSem.Claim
import GoSem.ClaimJoined
import GoSem.ClaimMapViews
import Derived.JoinedTies
import Derived.KernelRfl
namespace Go.Proofs.Qxb6602118a
/- THE CELL 'sum', in the pinned program and in every row, IS THE sha256 OF THE DUMP (.gsa) THAT Qxb6602118aProg.lean LOADS. Nothing in Lean hashes anything: it is a label: what it is worth is what the hold of that sum in a sandbox is worth. -/
noncomputable def Try.pinned : Pinned := { name := "qxb6602118a", sum := "ce43ad90b74555c6d043c6353109aee8126460906fac2bd87435af69377e9c6f", checked := Try.checked }
namespace Rows
def none {H : Type} : Left H := { results := [], args := [] }

/-- 'zzlaws_internal_sse_b1.FnDataValueRoundTrip': WHATEVER THE INPUT: true; the input reads as it did. -/
def fnDataValueRoundTripSpec : ChangeSpec := { name := "fnDataValueRoundTrip", fn := fun _ => fun
  | [d1, d2] => { results := [.lit (.bool true)], args := [d1, d2] }
  | _ => none }
def fnDataValueRoundTripRow : OpenClaim := { program := "qxb6602118a", sum := "ce43ad90b74555c6d043c6353109aee8126460906fac2bd87435af69377e9c6f", func := "example.com/seshat/seshat/zzlaws_internal_sse_b1.FnDataValueRoundTrip", spec := "fnDataValueRoundTrip", inPlace := ["internal/bytealg.IndexByte", "internal/bytealg.Index"], named := ["internal/bytealg.MaxLen"], apart := false }
def FnDataValueRoundTripSaid : Prop := fnDataValueRoundTripRow.holds Try.pinned (OpenSpec.ofChange fnDataValueRoundTripSpec)

/-- ITS FALSE NEIGHBOUR: 'it returns false'. Refute it at one input. -/
def fnDataValueRoundTripWrong : ChangeSpec := { name := "fnDataValueRoundTrip", fn := fun _ => fun
  | [d1, d2] => { results := [.lit (.bool false)], args := [d1, d2] }
  | _ => none }
def FnDataValueRoundTripWrongFalsely : Prop := fnDataValueRoundTripRow.holds Try.pinned (OpenSpec.ofChange fnDataValueRoundTripWrong)

end Rows
end Go.Proofs.Qxb6602118a
