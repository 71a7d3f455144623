/-
  No cell of these rows narrows 'for every input' (looked for: loops, veiled, ifaces, maps, wideKeys, modest, calm, conditions, laid).
  DERIVED. THE GIVEN ROWS OF THIS SEAT. 4 by the template 'for every input the law returns true; each argument reads behind the call as it read before'; 0 by the template 'total and deterministic' (their statements: Qxb6602085aTotals.lean).
  GIVEN WITH THE SEED: the statements are not yours to turn. If you find one false, say at which input.
  Laid BY PROGRAM, IN A SANDBOX (cutbox-rows.mjs): the forced cells as the released guide's own fill.sh prints them over the translation 07dad9198e99ae41… (all of the seat's roots in one cut). By AI agents, Wed Nov 11 2026. No macro, syntax, notation, axiom, sorry.
-/
import Derived.Test.Qxb6602085aChecked
import GoSem.Claim
import GoSem.ClaimJoined
import GoSem.ClaimMapViews
import Derived.JoinedTies
import Derived.KernelRfl
namespace Go.Proofs.Qxb6602085a
/- THE CELL 'sum', in the pinned program and in every row, IS THE sha256 OF THE DUMP (.gsa) THAT Qxb6602085aProg.lean LOADS. Nothing in Lean hashes anything: it is a label: what it is worth is what the hold of that sum in a sandbox is worth. -/
noncomputable def Try.pinned : Pinned := { name := "qxb6602085a", sum := "07dad9198e99ae418dd2f50a63330fe8400be2f4eb1ae6cd3a9cf4b37c289e0b", checked := Try.checked }
namespace Rows
def none {H : Type} : Left H := { results := [], args := [] }

/-- 'zzlaws_internal_words_b1.FnStep1aIdempotent': WHATEVER THE INPUT: true; the input reads as it did. -/
def fnStep1aIdempotentSpec : ChangeSpec := { name := "fnStep1aIdempotent", fn := fun _ => fun
  | [d] => { results := [.lit (.bool true)], args := [d] }
  | _ => none }
def fnStep1aIdempotentRow : OpenClaim := { program := "qxb6602085a", sum := "07dad9198e99ae418dd2f50a63330fe8400be2f4eb1ae6cd3a9cf4b37c289e0b", func := "example.com/thicket/thicket/zzlaws_internal_words_b1.FnStep1aIdempotent", spec := "fnStep1aIdempotent", apart := false }
def FnStep1aIdempotentSaid : Prop := fnStep1aIdempotentRow.holds Try.pinned (OpenSpec.ofChange fnStep1aIdempotentSpec)

/-- ITS FALSE NEIGHBOUR: 'it returns false'. Refute it at one input. -/
def fnStep1aIdempotentWrong : ChangeSpec := { name := "fnStep1aIdempotent", fn := fun _ => fun
  | [d] => { results := [.lit (.bool false)], args := [d] }
  | _ => none }
def FnStep1aIdempotentWrongFalsely : Prop := fnStep1aIdempotentRow.holds Try.pinned (OpenSpec.ofChange fnStep1aIdempotentWrong)

/-- 'zzlaws_internal_words_b1.FnStep1bPrefixAndEByCaseTable': WHATEVER THE INPUT: true; the input reads as it did. -/
def fnStep1bPrefixAndEByCaseTableSpec : ChangeSpec := { name := "fnStep1bPrefixAndEByCaseTable", fn := fun _ => fun
  | [d] => { results := [.lit (.bool true)], args := [d] }
  | _ => none }
def fnStep1bPrefixAndEByCaseTableRow : OpenClaim := { program := "qxb6602085a", sum := "07dad9198e99ae418dd2f50a63330fe8400be2f4eb1ae6cd3a9cf4b37c289e0b", func := "example.com/thicket/thicket/zzlaws_internal_words_b1.FnStep1bPrefixAndEByCaseTable", spec := "fnStep1bPrefixAndEByCaseTable", inPlace := ["internal/bytealg.IndexByteString", "internal/bytealg.IndexString"], recurses := true, named := ["internal/bytealg.MaxLen"], apart := false }
def FnStep1bPrefixAndEByCaseTableSaid : Prop := fnStep1bPrefixAndEByCaseTableRow.holds Try.pinned (OpenSpec.ofChange fnStep1bPrefixAndEByCaseTableSpec)

/-- ITS FALSE NEIGHBOUR: 'it returns false'. Refute it at one input. -/
def fnStep1bPrefixAndEByCaseTableWrong : ChangeSpec := { name := "fnStep1bPrefixAndEByCaseTable", fn := fun _ => fun
  | [d] => { results := [.lit (.bool false)], args := [d] }
  | _ => none }
def FnStep1bPrefixAndEByCaseTableWrongFalsely : Prop := fnStep1bPrefixAndEByCaseTableRow.holds Try.pinned (OpenSpec.ofChange fnStep1bPrefixAndEByCaseTableWrong)

/-- 'zzlaws_internal_words_b1.FnStep1bEdAndIngMeet': WHATEVER THE INPUT: true; the input reads as it did. -/
def fnStep1bEdAndIngMeetSpec : ChangeSpec := { name := "fnStep1bEdAndIngMeet", fn := fun _ => fun
  | [d] => { results := [.lit (.bool true)], args := [d] }
  | _ => none }
def fnStep1bEdAndIngMeetRow : OpenClaim := { program := "qxb6602085a", sum := "07dad9198e99ae418dd2f50a63330fe8400be2f4eb1ae6cd3a9cf4b37c289e0b", func := "example.com/thicket/thicket/zzlaws_internal_words_b1.FnStep1bEdAndIngMeet", spec := "fnStep1bEdAndIngMeet", inPlace := ["internal/bytealg.IndexByteString", "internal/bytealg.IndexString"], recurses := true, named := ["internal/bytealg.MaxLen"], apart := false }
def FnStep1bEdAndIngMeetSaid : Prop := fnStep1bEdAndIngMeetRow.holds Try.pinned (OpenSpec.ofChange fnStep1bEdAndIngMeetSpec)

/-- ITS FALSE NEIGHBOUR: 'it returns false'. Refute it at one input. -/
def fnStep1bEdAndIngMeetWrong : ChangeSpec := { name := "fnStep1bEdAndIngMeet", fn := fun _ => fun
  | [d] => { results := [.lit (.bool false)], args := [d] }
  | _ => none }
def FnStep1bEdAndIngMeetWrongFalsely : Prop := fnStep1bEdAndIngMeetRow.holds Try.pinned (OpenSpec.ofChange fnStep1bEdAndIngMeetWrong)

/-- 'zzlaws_internal_words_b1.FnAppendRunCharsInterleavePairs': WHATEVER THE INPUT: true; the input reads as it did. -/
def fnAppendRunCharsInterleavePairsSpec : ChangeSpec := { name := "fnAppendRunCharsInterleavePairs", fn := fun _ => fun
  | [d1, d2] => { results := [.lit (.bool true)], args := [d1, d2] }
  | _ => none }
def fnAppendRunCharsInterleavePairsRow : OpenClaim := { program := "qxb6602085a", sum := "07dad9198e99ae418dd2f50a63330fe8400be2f4eb1ae6cd3a9cf4b37c289e0b", func := "example.com/thicket/thicket/zzlaws_internal_words_b1.FnAppendRunCharsInterleavePairs", spec := "fnAppendRunCharsInterleavePairs", apart := false }
def FnAppendRunCharsInterleavePairsSaid : Prop := fnAppendRunCharsInterleavePairsRow.holds Try.pinned (OpenSpec.ofChange fnAppendRunCharsInterleavePairsSpec)

/-- ITS FALSE NEIGHBOUR: 'it returns false'. Refute it at one input. -/
def fnAppendRunCharsInterleavePairsWrong : ChangeSpec := { name := "fnAppendRunCharsInterleavePairs", fn := fun _ => fun
  | [d1, d2] => { results := [.lit (.bool false)], args := [d1, d2] }
  | _ => none }
def FnAppendRunCharsInterleavePairsWrongFalsely : Prop := fnAppendRunCharsInterleavePairsRow.holds Try.pinned (OpenSpec.ofChange fnAppendRunCharsInterleavePairsWrong)

end Rows
end Go.Proofs.Qxb6602085a
