/-
  No cell of these rows narrows 'for every input' (looked for: loops, veiled, ifaces, maps, wideKeys, modest, calm, conditions, laid).
  DERIVED. THE GIVEN ROWS OF THIS SEAT. 5 by the template 'for every input the law returns true; each argument reads behind the call as it read before'; 0 by the template 'total and deterministic' (their statements: Qxb6602604aTotals.lean).
  GIVEN WITH THE SEED: the statements are not yours to turn. If you find one false, say at which input.
  Laid BY PROGRAM, IN A SANDBOX (cutbox-rows.mjs): the forced cells as the released guide's own fill.sh prints them over the translation 5ab213b1472b8800… (all of the seat's roots in one cut). By AI agents, Wed Nov 11 2026. No macro, syntax, notation, axiom, sorry.
-/
import Derived.Test.Qxb6602604aChecked
import GoSem.Claim
import GoSem.ClaimJoined
import GoSem.ClaimMapViews
import Derived.JoinedTies
import Derived.KernelRfl
namespace Go.Proofs.Qxb6602604a
/- THE CELL 'sum', in the pinned program and in every row, IS THE sha256 OF THE DUMP (.gsa) THAT Qxb6602604aProg.lean LOADS. Nothing in Lean hashes anything: it is a label: what it is worth is what the hold of that sum in a sandbox is worth. -/
noncomputable def Try.pinned : Pinned := { name := "qxb6602604a", sum := "5ab213b1472b8800fff8815e1ae2bea9add06379ea5fa1ab7dfdd18fb6e7d9d9", checked := Try.checked }
namespace Rows
def none {H : Type} : Left H := { results := [], args := [] }

/-- 'zzlaws_internal_oip_b1.FnLengthBufferHoldsPiecesExactly': WHATEVER THE INPUT: true; the input reads as it did. -/
def fnLengthBufferHoldsPiecesExactlySpec : ChangeSpec := { name := "fnLengthBufferHoldsPiecesExactly", fn := fun _ => fun
  | [d1, d2] => { results := [.lit (.bool true)], args := [d1, d2] }
  | _ => none }
def fnLengthBufferHoldsPiecesExactlyRow : OpenClaim := { program := "qxb6602604a", sum := "5ab213b1472b8800fff8815e1ae2bea9add06379ea5fa1ab7dfdd18fb6e7d9d9", func := "example.com/inferwright/inferwright/zzlaws_internal_oip_b1.FnLengthBufferHoldsPiecesExactly", spec := "fnLengthBufferHoldsPiecesExactly", apart := false }
def FnLengthBufferHoldsPiecesExactlySaid : Prop := fnLengthBufferHoldsPiecesExactlyRow.holds Try.pinned (OpenSpec.ofChange fnLengthBufferHoldsPiecesExactlySpec)

/-- ITS FALSE NEIGHBOUR: 'it returns false'. Refute it at one input. -/
def fnLengthBufferHoldsPiecesExactlyWrong : ChangeSpec := { name := "fnLengthBufferHoldsPiecesExactly", fn := fun _ => fun
  | [d1, d2] => { results := [.lit (.bool false)], args := [d1, d2] }
  | _ => none }
def FnLengthBufferHoldsPiecesExactlyWrongFalsely : Prop := fnLengthBufferHoldsPiecesExactlyRow.holds Try.pinned (OpenSpec.ofChange fnLengthBufferHoldsPiecesExactlyWrong)

/-- 'zzlaws_internal_oip_b1.FnElementEndMatchesSpec': WHATEVER THE INPUT: true; the input reads as it did. -/
def fnElementEndMatchesSpecSpec : ChangeSpec := { name := "fnElementEndMatchesSpec", fn := fun _ => fun
  | [d1, d2] => { results := [.lit (.bool true)], args := [d1, d2] }
  | _ => none }
def fnElementEndMatchesSpecRow : OpenClaim := { program := "qxb6602604a", sum := "5ab213b1472b8800fff8815e1ae2bea9add06379ea5fa1ab7dfdd18fb6e7d9d9", func := "example.com/inferwright/inferwright/zzlaws_internal_oip_b1.FnElementEndMatchesSpec", spec := "fnElementEndMatchesSpec", apart := false }
def FnElementEndMatchesSpecSaid : Prop := fnElementEndMatchesSpecRow.holds Try.pinned (OpenSpec.ofChange fnElementEndMatchesSpecSpec)

/-- ITS FALSE NEIGHBOUR: 'it returns false'. Refute it at one input. -/
def fnElementEndMatchesSpecWrong : ChangeSpec := { name := "fnElementEndMatchesSpec", fn := fun _ => fun
  | [d1, d2] => { results := [.lit (.bool false)], args := [d1, d2] }
  | _ => none }
def FnElementEndMatchesSpecWrongFalsely : Prop := fnElementEndMatchesSpecRow.holds Try.pinned (OpenSpec.ofChange fnElementEndMatchesSpecWrong)

/-- 'zzlaws_internal_oip_b1.FnElementEndShiftCutAndTail': WHATEVER THE INPUT: true; the input reads as it did. -/
def fnElementEndShiftCutAndTailSpec : ChangeSpec := { name := "fnElementEndShiftCutAndTail", fn := fun _ => fun
  | [d1, d2, d3] => { results := [.lit (.bool true)], args := [d1, d2, d3] }
  | _ => none }
def fnElementEndShiftCutAndTailRow : OpenClaim := { program := "qxb6602604a", sum := "5ab213b1472b8800fff8815e1ae2bea9add06379ea5fa1ab7dfdd18fb6e7d9d9", func := "example.com/inferwright/inferwright/zzlaws_internal_oip_b1.FnElementEndShiftCutAndTail", spec := "fnElementEndShiftCutAndTail", apart := false }
def FnElementEndShiftCutAndTailSaid : Prop := fnElementEndShiftCutAndTailRow.holds Try.pinned (OpenSpec.ofChange fnElementEndShiftCutAndTailSpec)

/-- ITS FALSE NEIGHBOUR: 'it returns false'. Refute it at one input. -/
def fnElementEndShiftCutAndTailWrong : ChangeSpec := { name := "fnElementEndShiftCutAndTail", fn := fun _ => fun
  | [d1, d2, d3] => { results := [.lit (.bool false)], args := [d1, d2, d3] }
  | _ => none }
def FnElementEndShiftCutAndTailWrongFalsely : Prop := fnElementEndShiftCutAndTailRow.holds Try.pinned (OpenSpec.ofChange fnElementEndShiftCutAndTailWrong)

/-- 'zzlaws_internal_oip_b1.FnValueEndMatchesParser': WHATEVER THE INPUT: true; the input reads as it did. -/
def fnValueEndMatchesParserSpec : ChangeSpec := { name := "fnValueEndMatchesParser", fn := fun _ => fun
  | [d1, d2] => { results := [.lit (.bool true)], args := [d1, d2] }
  | _ => none }
def fnValueEndMatchesParserRow : OpenClaim := { program := "qxb6602604a", sum := "5ab213b1472b8800fff8815e1ae2bea9add06379ea5fa1ab7dfdd18fb6e7d9d9", func := "example.com/inferwright/inferwright/zzlaws_internal_oip_b1.FnValueEndMatchesParser", spec := "fnValueEndMatchesParser", apart := false }
def FnValueEndMatchesParserSaid : Prop := fnValueEndMatchesParserRow.holds Try.pinned (OpenSpec.ofChange fnValueEndMatchesParserSpec)

/-- ITS FALSE NEIGHBOUR: 'it returns false'. Refute it at one input. -/
def fnValueEndMatchesParserWrong : ChangeSpec := { name := "fnValueEndMatchesParser", fn := fun _ => fun
  | [d1, d2] => { results := [.lit (.bool false)], args := [d1, d2] }
  | _ => none }
def FnValueEndMatchesParserWrongFalsely : Prop := fnValueEndMatchesParserRow.holds Try.pinned (OpenSpec.ofChange fnValueEndMatchesParserWrong)

/-- 'zzlaws_internal_oip_b1.FnValueEndShiftCutAndNest': WHATEVER THE INPUT: true; the input reads as it did. -/
def fnValueEndShiftCutAndNestSpec : ChangeSpec := { name := "fnValueEndShiftCutAndNest", fn := fun _ => fun
  | [d1, d2, d3] => { results := [.lit (.bool true)], args := [d1, d2, d3] }
  | _ => none }
def fnValueEndShiftCutAndNestRow : OpenClaim := { program := "qxb6602604a", sum := "5ab213b1472b8800fff8815e1ae2bea9add06379ea5fa1ab7dfdd18fb6e7d9d9", func := "example.com/inferwright/inferwright/zzlaws_internal_oip_b1.FnValueEndShiftCutAndNest", spec := "fnValueEndShiftCutAndNest", apart := false }
def FnValueEndShiftCutAndNestSaid : Prop := fnValueEndShiftCutAndNestRow.holds Try.pinned (OpenSpec.ofChange fnValueEndShiftCutAndNestSpec)

/-- ITS FALSE NEIGHBOUR: 'it returns false'. Refute it at one input. -/
def fnValueEndShiftCutAndNestWrong : ChangeSpec := { name := "fnValueEndShiftCutAndNest", fn := fun _ => fun
  | [d1, d2, d3] => { results := [.lit (.bool false)], args := [d1, d2, d3] }
  | _ => none }
def FnValueEndShiftCutAndNestWrongFalsely : Prop := fnValueEndShiftCutAndNestRow.holds Try.pinned (OpenSpec.ofChange fnValueEndShiftCutAndNestWrong)

end Rows
end Go.Proofs.Qxb6602604a
