/-
  No cell of these rows narrows 'for every input' (looked for: loops, veiled, ifaces, maps, wideKeys, modest, calm, conditions, laid).
  DERIVED. THE GIVEN ROWS OF THIS SEAT. 2 by the template 'for every input the law returns true; each argument reads behind the call as it read before'; 0 by the template 'total and deterministic' (their statements: Qxb6602029aTotals.lean).
  GIVEN WITH THE SEED: the statements are not yours to turn. If you find one false, say at which input.
  Laid BY PROGRAM, IN A SANDBOX (cutbox-rows.mjs): the forced cells as the released guide's own fill.sh prints them over the translation c7ab4a5170a2b69f… (all of the seat's roots in one cut). By AI agents, Wed Nov 11 2026. No macro, syntax, notation, axiom, sorry.
-/
import Derived.Test.Qxb6602029aChecked
import GoSem.Claim
import GoSem.ClaimJoined
import GoSem.ClaimMapViews
import Derived.JoinedTies
import Derived.KernelRfl
namespace Go.Proofs.Qxb6602029a
/- THE CELL 'sum', in the pinned program and in every row, IS THE sha256 OF THE DUMP (.gsa) THAT Qxb6602029aProg.lean LOADS. Nothing in Lean hashes anything: it is a label: what it is worth is what the hold of that sum in a sandbox is worth. -/
noncomputable def Try.pinned : Pinned := { name := "qxb6602029a", sum := "c7ab4a5170a2b69f20d2829771e0d10c85860d513ca802848b0f791e8b0a65a2", checked := Try.checked }
namespace Rows
def none {H : Type} : Left H := { results := [], args := [] }

/-- 'zzlaws_internal_endpoint_b1.FnCutURLMatchesItsCharacterisation': WHATEVER THE INPUT: true; the input reads as it did. -/
def fnCutURLMatchesItsCharacterisationSpec : ChangeSpec := { name := "fnCutURLMatchesItsCharacterisation", fn := fun _ => fun
  | [d] => { results := [.lit (.bool true)], args := [d] }
  | _ => none }
def fnCutURLMatchesItsCharacterisationRow : OpenClaim := { program := "qxb6602029a", sum := "c7ab4a5170a2b69f20d2829771e0d10c85860d513ca802848b0f791e8b0a65a2", func := "example.com/relaybox/relaybox/zzlaws_internal_endpoint_b1.FnCutURLMatchesItsCharacterisation", spec := "fnCutURLMatchesItsCharacterisation", inPlace := ["internal/bytealg.IndexByteString", "internal/bytealg.IndexString"], named := ["internal/bytealg.MaxLen"], apart := false }
def FnCutURLMatchesItsCharacterisationSaid : Prop := fnCutURLMatchesItsCharacterisationRow.holds Try.pinned (OpenSpec.ofChange fnCutURLMatchesItsCharacterisationSpec)

/-- ITS FALSE NEIGHBOUR: 'it returns false'. Refute it at one input. -/
def fnCutURLMatchesItsCharacterisationWrong : ChangeSpec := { name := "fnCutURLMatchesItsCharacterisation", fn := fun _ => fun
  | [d] => { results := [.lit (.bool false)], args := [d] }
  | _ => none }
def FnCutURLMatchesItsCharacterisationWrongFalsely : Prop := fnCutURLMatchesItsCharacterisationRow.holds Try.pinned (OpenSpec.ofChange fnCutURLMatchesItsCharacterisationWrong)

/-- 'zzlaws_internal_endpoint_b1.FnCutURLParsesWhatIsBuilt': WHATEVER THE INPUT: true; the input reads as it did. -/
def fnCutURLParsesWhatIsBuiltSpec : ChangeSpec := { name := "fnCutURLParsesWhatIsBuilt", fn := fun _ => fun
  | [d1, d2, d3, d4] => { results := [.lit (.bool true)], args := [d1, d2, d3, d4] }
  | _ => none }
def fnCutURLParsesWhatIsBuiltRow : OpenClaim := { program := "qxb6602029a", sum := "c7ab4a5170a2b69f20d2829771e0d10c85860d513ca802848b0f791e8b0a65a2", func := "example.com/relaybox/relaybox/zzlaws_internal_endpoint_b1.FnCutURLParsesWhatIsBuilt", spec := "fnCutURLParsesWhatIsBuilt", inPlace := ["internal/bytealg.IndexByteString", "internal/bytealg.IndexString"], named := ["internal/bytealg.MaxLen"], apart := false }
def FnCutURLParsesWhatIsBuiltSaid : Prop := fnCutURLParsesWhatIsBuiltRow.holds Try.pinned (OpenSpec.ofChange fnCutURLParsesWhatIsBuiltSpec)

/-- ITS FALSE NEIGHBOUR: 'it returns false'. Refute it at one input. -/
def fnCutURLParsesWhatIsBuiltWrong : ChangeSpec := { name := "fnCutURLParsesWhatIsBuilt", fn := fun _ => fun
  | [d1, d2, d3, d4] => { results := [.lit (.bool false)], args := [d1, d2, d3, d4] }
  | _ => none }
def FnCutURLParsesWhatIsBuiltWrongFalsely : Prop := fnCutURLParsesWhatIsBuiltRow.holds Try.pinned (OpenSpec.ofChange fnCutURLParsesWhatIsBuiltWrong)

end Rows
end Go.Proofs.Qxb6602029a
