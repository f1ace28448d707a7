/-
  No cell of these rows narrows 'for every input' (looked for: loops, veiled, ifaces, maps, wideKeys, modest, calm, conditions, laid).
  DERIVED. THE GIVEN ROWS OF THIS SEAT. 6 by the template 'for every input the law returns true; each argument reads behind the call as it read before'; 0 by the template 'total and deterministic' (their statements: Qxb6603184aTotals.lean).
  GIVEN WITH THE SEED: the statements are not yours to turn. If you find one false, say at which input.
  Laid BY PROGRAM, IN A SANDBOX (cutbox-rows.mjs): the forced cells as the released guide's own fill.sh prints them over the translation c8fd52f1c33d1c4e… (all of the seat's roots in one cut). By AI agents, Wed Nov 11 2026. No macro, syntax, notation, axiom, sorry.
-/
import Derived.Test.Qxb6603184aChecked
import GoSem.Claim
import GoSem.ClaimJoined
import GoSem.ClaimMapViews
import Derived.JoinedTies
import Derived.KernelRfl
namespace Go.Proofs.Qxb6603184a
/- THE CELL 'sum', in the pinned program and in every row, IS THE sha256 OF THE DUMP (.gsa) THAT Qxb6603184aProg.lean LOADS. Nothing in Lean hashes anything: it is a label: what it is worth is what the hold of that sum in a sandbox is worth. -/
noncomputable def Try.pinned : Pinned := { name := "qxb6603184a", sum := "c8fd52f1c33d1c4e879468f4efe831d599581fef8ece49c0ba3620bc6eca38ba", checked := Try.checked }
namespace Rows
def none {H : Type} : Left H := { results := [], args := [] }

/-- 'zzlaws_internal_protocol_b1.FnSplitAppendsExactlyTheFields': WHATEVER THE INPUT: true; the input reads as it did. -/
def fnSplitAppendsExactlyTheFieldsSpec : ChangeSpec := { name := "fnSplitAppendsExactlyTheFields", fn := fun _ => fun
  | [d1, d2, d3] => { results := [.lit (.bool true)], args := [d1, d2, d3] }
  | _ => none }
def fnSplitAppendsExactlyTheFieldsRow : OpenClaim := { program := "qxb6603184a", sum := "c8fd52f1c33d1c4e879468f4efe831d599581fef8ece49c0ba3620bc6eca38ba", func := "example.com/accordant/accordant/zzlaws_internal_protocol_b1.FnSplitAppendsExactlyTheFields", spec := "fnSplitAppendsExactlyTheFields", apart := false }
def FnSplitAppendsExactlyTheFieldsSaid : Prop := fnSplitAppendsExactlyTheFieldsRow.holds Try.pinned (OpenSpec.ofChange fnSplitAppendsExactlyTheFieldsSpec)

/-- ITS FALSE NEIGHBOUR: 'it returns false'. Refute it at one input. -/
def fnSplitAppendsExactlyTheFieldsWrong : ChangeSpec := { name := "fnSplitAppendsExactlyTheFields", fn := fun _ => fun
  | [d1, d2, d3] => { results := [.lit (.bool false)], args := [d1, d2, d3] }
  | _ => none }
def FnSplitAppendsExactlyTheFieldsWrongFalsely : Prop := fnSplitAppendsExactlyTheFieldsRow.holds Try.pinned (OpenSpec.ofChange fnSplitAppendsExactlyTheFieldsWrong)

/-- 'zzlaws_internal_protocol_b1.FnSplitOfJoinedFieldsIsTheSame': WHATEVER THE INPUT: true; the input reads as it did. -/
def fnSplitOfJoinedFieldsIsTheSameSpec : ChangeSpec := { name := "fnSplitOfJoinedFieldsIsTheSame", fn := fun _ => fun
  | [d] => { results := [.lit (.bool true)], args := [d] }
  | _ => none }
def fnSplitOfJoinedFieldsIsTheSameRow : OpenClaim := { program := "qxb6603184a", sum := "c8fd52f1c33d1c4e879468f4efe831d599581fef8ece49c0ba3620bc6eca38ba", func := "example.com/accordant/accordant/zzlaws_internal_protocol_b1.FnSplitOfJoinedFieldsIsTheSame", spec := "fnSplitOfJoinedFieldsIsTheSame", apart := false }
def FnSplitOfJoinedFieldsIsTheSameSaid : Prop := fnSplitOfJoinedFieldsIsTheSameRow.holds Try.pinned (OpenSpec.ofChange fnSplitOfJoinedFieldsIsTheSameSpec)

/-- ITS FALSE NEIGHBOUR: 'it returns false'. Refute it at one input. -/
def fnSplitOfJoinedFieldsIsTheSameWrong : ChangeSpec := { name := "fnSplitOfJoinedFieldsIsTheSame", fn := fun _ => fun
  | [d] => { results := [.lit (.bool false)], args := [d] }
  | _ => none }
def FnSplitOfJoinedFieldsIsTheSameWrongFalsely : Prop := fnSplitOfJoinedFieldsIsTheSameRow.holds Try.pinned (OpenSpec.ofChange fnSplitOfJoinedFieldsIsTheSameWrong)

/-- 'zzlaws_internal_protocol_b1.FnSplitAcrossASeparatorAccumulates': WHATEVER THE INPUT: true; the input reads as it did. -/
def fnSplitAcrossASeparatorAccumulatesSpec : ChangeSpec := { name := "fnSplitAcrossASeparatorAccumulates", fn := fun _ => fun
  | [d1, d2, d3] => { results := [.lit (.bool true)], args := [d1, d2, d3] }
  | _ => none }
def fnSplitAcrossASeparatorAccumulatesRow : OpenClaim := { program := "qxb6603184a", sum := "c8fd52f1c33d1c4e879468f4efe831d599581fef8ece49c0ba3620bc6eca38ba", func := "example.com/accordant/accordant/zzlaws_internal_protocol_b1.FnSplitAcrossASeparatorAccumulates", spec := "fnSplitAcrossASeparatorAccumulates", apart := false }
def FnSplitAcrossASeparatorAccumulatesSaid : Prop := fnSplitAcrossASeparatorAccumulatesRow.holds Try.pinned (OpenSpec.ofChange fnSplitAcrossASeparatorAccumulatesSpec)

/-- ITS FALSE NEIGHBOUR: 'it returns false'. Refute it at one input. -/
def fnSplitAcrossASeparatorAccumulatesWrong : ChangeSpec := { name := "fnSplitAcrossASeparatorAccumulates", fn := fun _ => fun
  | [d1, d2, d3] => { results := [.lit (.bool false)], args := [d1, d2, d3] }
  | _ => none }
def FnSplitAcrossASeparatorAccumulatesWrongFalsely : Prop := fnSplitAcrossASeparatorAccumulatesRow.holds Try.pinned (OpenSpec.ofChange fnSplitAcrossASeparatorAccumulatesWrong)

/-- 'zzlaws_internal_protocol_b1.FnValidNameIsTheAlphabetAndLength': WHATEVER THE INPUT: true; the input reads as it did. -/
def fnValidNameIsTheAlphabetAndLengthSpec : ChangeSpec := { name := "fnValidNameIsTheAlphabetAndLength", fn := fun _ => fun
  | [d] => { results := [.lit (.bool true)], args := [d] }
  | _ => none }
def fnValidNameIsTheAlphabetAndLengthRow : OpenClaim := { program := "qxb6603184a", sum := "c8fd52f1c33d1c4e879468f4efe831d599581fef8ece49c0ba3620bc6eca38ba", func := "example.com/accordant/accordant/zzlaws_internal_protocol_b1.FnValidNameIsTheAlphabetAndLength", spec := "fnValidNameIsTheAlphabetAndLength", apart := false }
def FnValidNameIsTheAlphabetAndLengthSaid : Prop := fnValidNameIsTheAlphabetAndLengthRow.holds Try.pinned (OpenSpec.ofChange fnValidNameIsTheAlphabetAndLengthSpec)

/-- ITS FALSE NEIGHBOUR: 'it returns false'. Refute it at one input. -/
def fnValidNameIsTheAlphabetAndLengthWrong : ChangeSpec := { name := "fnValidNameIsTheAlphabetAndLength", fn := fun _ => fun
  | [d] => { results := [.lit (.bool false)], args := [d] }
  | _ => none }
def FnValidNameIsTheAlphabetAndLengthWrongFalsely : Prop := fnValidNameIsTheAlphabetAndLengthRow.holds Try.pinned (OpenSpec.ofChange fnValidNameIsTheAlphabetAndLengthWrong)

/-- 'zzlaws_internal_protocol_b1.FnValidNameOfAConcatenation': WHATEVER THE INPUT: true; the input reads as it did. -/
def fnValidNameOfAConcatenationSpec : ChangeSpec := { name := "fnValidNameOfAConcatenation", fn := fun _ => fun
  | [d1, d2] => { results := [.lit (.bool true)], args := [d1, d2] }
  | _ => none }
def fnValidNameOfAConcatenationRow : OpenClaim := { program := "qxb6603184a", sum := "c8fd52f1c33d1c4e879468f4efe831d599581fef8ece49c0ba3620bc6eca38ba", func := "example.com/accordant/accordant/zzlaws_internal_protocol_b1.FnValidNameOfAConcatenation", spec := "fnValidNameOfAConcatenation", apart := false }
def FnValidNameOfAConcatenationSaid : Prop := fnValidNameOfAConcatenationRow.holds Try.pinned (OpenSpec.ofChange fnValidNameOfAConcatenationSpec)

/-- ITS FALSE NEIGHBOUR: 'it returns false'. Refute it at one input. -/
def fnValidNameOfAConcatenationWrong : ChangeSpec := { name := "fnValidNameOfAConcatenation", fn := fun _ => fun
  | [d1, d2] => { results := [.lit (.bool false)], args := [d1, d2] }
  | _ => none }
def FnValidNameOfAConcatenationWrongFalsely : Prop := fnValidNameOfAConcatenationRow.holds Try.pinned (OpenSpec.ofChange fnValidNameOfAConcatenationWrong)

/-- 'zzlaws_internal_protocol_b1.FnLeaderReadsBackTheNamedAddress': WHATEVER THE INPUT: true; the input reads as it did. -/
def fnLeaderReadsBackTheNamedAddressSpec : ChangeSpec := { name := "fnLeaderReadsBackTheNamedAddress", fn := fun _ => fun
  | [d1, d2] => { results := [.lit (.bool true)], args := [d1, d2] }
  | _ => none }
def fnLeaderReadsBackTheNamedAddressRow : OpenClaim := { program := "qxb6603184a", sum := "c8fd52f1c33d1c4e879468f4efe831d599581fef8ece49c0ba3620bc6eca38ba", func := "example.com/accordant/accordant/zzlaws_internal_protocol_b1.FnLeaderReadsBackTheNamedAddress", spec := "fnLeaderReadsBackTheNamedAddress", inPlace := ["internal/bytealg.IndexByteString", "internal/bytealg.IndexString"], named := ["internal/bytealg.MaxLen"], apart := false }
def FnLeaderReadsBackTheNamedAddressSaid : Prop := fnLeaderReadsBackTheNamedAddressRow.holds Try.pinned (OpenSpec.ofChange fnLeaderReadsBackTheNamedAddressSpec)

/-- ITS FALSE NEIGHBOUR: 'it returns false'. Refute it at one input. -/
def fnLeaderReadsBackTheNamedAddressWrong : ChangeSpec := { name := "fnLeaderReadsBackTheNamedAddress", fn := fun _ => fun
  | [d1, d2] => { results := [.lit (.bool false)], args := [d1, d2] }
  | _ => none }
def FnLeaderReadsBackTheNamedAddressWrongFalsely : Prop := fnLeaderReadsBackTheNamedAddressRow.holds Try.pinned (OpenSpec.ofChange fnLeaderReadsBackTheNamedAddressWrong)

end Rows
end Go.Proofs.Qxb6603184a
