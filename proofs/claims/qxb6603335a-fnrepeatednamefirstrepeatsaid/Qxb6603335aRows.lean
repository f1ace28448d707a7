/-
  No cell of these rows narrows 'for every input' (looked for: loops, veiled, ifaces, maps, wideKeys, modest, calm, conditions, laid).
  DERIVED. THE GIVEN ROWS OF THIS SEAT. 2 by the template 'for every input the law returns true; each argument reads behind the call as it read before'; 0 by the template 'total and deterministic' (their statements: Qxb6603335aTotals.lean).
  GIVEN WITH THE SEED: the statements are not yours to turn. If you find one false, say at which input.
  Laid BY PROGRAM, IN A SANDBOX (cutbox-rows.mjs): the forced cells as the released guide's own fill.sh prints them over the translation 20addc78a8345cfd… (all of the seat's roots in one cut). By AI agents, Wed Nov 11 2026. No macro, syntax, notation, axiom, sorry.
-/
import Derived.Test.Qxb6603335aChecked
import GoSem.Claim
import GoSem.ClaimJoined
import GoSem.ClaimMapViews
import Derived.JoinedTies
import Derived.KernelRfl
namespace Go.Proofs.Qxb6603335a
/- THE CELL 'sum', in the pinned program and in every row, IS THE sha256 OF THE DUMP (.gsa) THAT Qxb6603335aProg.lean LOADS. Nothing in Lean hashes anything: it is a label: what it is worth is what the hold of that sum in a sandbox is worth. -/
noncomputable def Try.pinned : Pinned := { name := "qxb6603335a", sum := "20addc78a8345cfda3e5037f90c9dec5c4932f9b9ac650df9e160f846c8623ec", checked := Try.checked }
namespace Rows
def none {H : Type} : Left H := { results := [], args := [] }

/-- 'zzlaws_root_b1.FnRepeatedNameFirstRepeat': WHATEVER THE INPUT: true; the input reads as it did. -/
def fnRepeatedNameFirstRepeatSpec : ChangeSpec := { name := "fnRepeatedNameFirstRepeat", fn := fun _ => fun
  | [d] => { results := [.lit (.bool true)], args := [d] }
  | _ => none }
def fnRepeatedNameFirstRepeatRow : OpenClaim := { program := "qxb6603335a", sum := "20addc78a8345cfda3e5037f90c9dec5c4932f9b9ac650df9e160f846c8623ec", func := "example.com/rungs/rungs/zzlaws_root_b1.FnRepeatedNameFirstRepeat", spec := "fnRepeatedNameFirstRepeat", apart := false }
def FnRepeatedNameFirstRepeatSaid : Prop := fnRepeatedNameFirstRepeatRow.holds Try.pinned (OpenSpec.ofChange fnRepeatedNameFirstRepeatSpec)

/-- ITS FALSE NEIGHBOUR: 'it returns false'. Refute it at one input. -/
def fnRepeatedNameFirstRepeatWrong : ChangeSpec := { name := "fnRepeatedNameFirstRepeat", fn := fun _ => fun
  | [d] => { results := [.lit (.bool false)], args := [d] }
  | _ => none }
def FnRepeatedNameFirstRepeatWrongFalsely : Prop := fnRepeatedNameFirstRepeatRow.holds Try.pinned (OpenSpec.ofChange fnRepeatedNameFirstRepeatWrong)

/-- 'zzlaws_root_b1.FnRepeatedNameKeepsEarlierRepeat': WHATEVER THE INPUT: true; the input reads as it did. -/
def fnRepeatedNameKeepsEarlierRepeatSpec : ChangeSpec := { name := "fnRepeatedNameKeepsEarlierRepeat", fn := fun _ => fun
  | [d1, d2] => { results := [.lit (.bool true)], args := [d1, d2] }
  | _ => none }
def fnRepeatedNameKeepsEarlierRepeatRow : OpenClaim := { program := "qxb6603335a", sum := "20addc78a8345cfda3e5037f90c9dec5c4932f9b9ac650df9e160f846c8623ec", func := "example.com/rungs/rungs/zzlaws_root_b1.FnRepeatedNameKeepsEarlierRepeat", spec := "fnRepeatedNameKeepsEarlierRepeat", apart := false }
def FnRepeatedNameKeepsEarlierRepeatSaid : Prop := fnRepeatedNameKeepsEarlierRepeatRow.holds Try.pinned (OpenSpec.ofChange fnRepeatedNameKeepsEarlierRepeatSpec)

/-- ITS FALSE NEIGHBOUR: 'it returns false'. Refute it at one input. -/
def fnRepeatedNameKeepsEarlierRepeatWrong : ChangeSpec := { name := "fnRepeatedNameKeepsEarlierRepeat", fn := fun _ => fun
  | [d1, d2] => { results := [.lit (.bool false)], args := [d1, d2] }
  | _ => none }
def FnRepeatedNameKeepsEarlierRepeatWrongFalsely : Prop := fnRepeatedNameKeepsEarlierRepeatRow.holds Try.pinned (OpenSpec.ofChange fnRepeatedNameKeepsEarlierRepeatWrong)

end Rows
end Go.Proofs.Qxb6603335a
