import Derived.Test.Qxb6603335aLaw
import Derived.ProofKit
import Derived.OpenShut
import Derived.ShutString
import Derived.ChangeOld
import Derived.Below
import Derived.Deep.Matrix
namespace Go.Proofs.Qxb6603335a.fnRepeatedNameFirstRepeat
open Go.ChangeShapes Go.WideShapes Go.ChangeAt Go.RowKit
set_option linter.unusedVariables false

theorem own : ownKnob Try.prog.godebug = none := by kernel_rfl
theorem laidOut : laidOutB Try.prog = true := by kernel_rfl

/-- What the walk is told of the slice of slices that came in. -/
def IsRows (w : World) (a : Option Addr) (n cap : Nat) (A : Nat → Option Addr) (L C : Nat → Nat) (D : Nat → Nat → Int) : Prop :=
  n ≤ maxLen ∧ (∀ r, r < n → L r ≤ maxLen) ∧ (a = none → n = 0 ∧ cap = 0) ∧ PRow w a n A L C ∧ (∀ r, r < n → InB w (A r) (L r) (C r) (D r)) ∧ ∀ r, r < n → Rng (L r) (D r)

set_option maxRecDepth 100000 in
theorem lifted (os : Os) (started : os.Started) (H : Type) (enc : TypeId × Value → H) :
    ReturnsInHanded {} Try.checked os 3 .any (Rows.fnRepeatedNameFirstRepeatSpec.pre6 enc Try.prog Try.f3 Rows.fnRepeatedNameFirstRepeatRow.domain false) (Rows.fnRepeatedNameFirstRepeatSpec.post enc Try.prog Try.f3 false true false false) := by
  refine returnsInHanded_of_change (C := Try.checked) own started (by kernel_rfl) Try.func3
    (ChangeSpec.witness6 (enc := enc) (C := Try.checked) false ⟨#[], #[.slice none 0 0], []⟩ 8 (by kernel_rfl) (by kernel_rfl) (by kernel_rfl) (by kernel_rfl)) ?_
  intro W base args ds gs before hval0 hW hcnd _
  have hval : ∀ (j : Nat) t v, Try.f3.params[j]? = some t → args[j]? = some v → Value.okWide Try.prog W .any base t v := hval0
  have hW' := hW
  obtain ⟨p, q, hA0, hV, rfl, hfz, hnd⟩ := hW
  have hA : DataW.TrodAll enc Try.prog W 0 (fun _ => true) true Try.f3.params.toList args.toList ds p := hA0
  rw [Try.params3] at hA hval
  obtain ⟨v0, vs0, d0, ds0, p0, q0, hargs, rfl, rfl, h0, r0⟩ := trodAll_cons hA
  obtain ⟨rfl, rfl, rfl⟩ := trodAll_nil r0
  obtain rfl : args = #[v0] := by cases args; simp_all
  obtain ⟨rfl, rfl⟩ := trodVars_none hV
  obtain ⟨a0, len0, cap0, rfl⟩ := okWide_slice Try.underlying22 (hval 0 22 v0 rfl rfl)
  have k0 := h0
  have lt0 : ∀ x ∈ p0, x.block < W.heap.size := by obtain ⟨m, hm⟩ := k0; exact DataW.trod_lt m _ _ _ hm
  obtain ⟨A, L, C, D, w0⟩ : ∃ A L C D, IsRows W a0 len0 cap0 A L C D := by
    obtain ⟨fuel, hf⟩ := h0
    rcases Deep.open_int_rows Try.underlying22 Try.underlying30 Try.underlying5 (by kernel_rfl) (by kernel_rfl) hf with ⟨hcs, _⟩ | ⟨a, l, c, A, L, C, Z, hcs, _, hl, hm, _, hr⟩
    · simp [Value.cells] at hcs
      obtain ⟨rfl, rfl, rfl⟩ := hcs
      exact ⟨fun _ => none, fun _ => 0, fun _ => 0, fun _ _ => 0, Nat.zero_le _, fun r hr => absurd hr (Nat.not_lt_zero r), fun _ => ⟨rfl, rfl⟩, fun h => absurd h (Nat.not_lt_zero _), fun r hr => absurd hr (Nat.not_lt_zero r), fun r hr => absurd hr (Nat.not_lt_zero r)⟩
    · simp [Value.cells] at hcs
      obtain ⟨rfl, rfl, rfl⟩ := hcs
      refine ⟨A, L, C, fun r c => (Z r).getD c 0, Nat.le_trans hl hm, fun r hx => ?_, fun h => (by cases h), fun h => ?_, fun r hx => ?_, fun r hx => ?_⟩
      · obtain ⟨_, q1, q2, _⟩ := hr r (by omega)
        exact Nat.le_trans q1 q2
      · obtain ⟨b, off, spot⟩ := a
        have hspot : spot = none := by simpa [Addr.add] using World.cell?_spot (hr 0 (by omega)).1
        subst hspot
        exact ⟨b, off, rfl, fun r hx => by rw [← add_plain]; exact (hr r (by omega)).1⟩
      · obtain ⟨_, q1, _, q3, _, q5, q6⟩ := hr r (by omega)
        cases hA : A r with
        | none => have := q5 hA; exact Or.inl ⟨rfl, by omega, this⟩
        | some x =>
          obtain ⟨_, q7⟩ := q6 x hA
          refine Or.inr ⟨x, rfl, fun h0 => ?_⟩
          obtain ⟨b, off, spot⟩ := x
          have hspot : spot = none := by simpa [Addr.add] using World.cell?_spot (q7 0 (by omega))
          subst hspot
          exact ⟨b, off, rfl, fun i hi => by rw [← add_plain]; exact q7 i (by omega)⟩
      · obtain ⟨_, q1, _, q3, q4, _⟩ := hr r (by omega)
        intro i hi
        have := range_u8 q4 i
        simpa [List.getD_eq_getElem?_getD] using this
  clear hA0 hval0
  refine (walk3 a0 len0 cap0 A L C D W w0.1 w0.2.1 w0.2.2.1 w0.2.2.2.1 w0.2.2.2.2.1 w0.2.2.2.2.2).mono fun e W' ⟨he, bel⟩ => ?_
  subst he
  exact ⟨_, rfl, _, _, _, [], _, [], hW', trodAll_mk1 (shut_bool Try.underlying4 _), (trodAll_cons_mk (Below.trod laidOut (by kernel_rfl) (of_decide_eq_true (by kernel_rfl)) k0 bel lt0) trodAll_mk0), rfl, bel.frame _, fun h => by cases h⟩

theorem over : Rows.fnRepeatedNameFirstRepeatRow.holds Try.pinned (OpenSpec.ofChange Rows.fnRepeatedNameFirstRepeatSpec) :=
  OpenClaim.holds_of_wide 3 Try.f3 rfl rfl rfl rfl rfl rfl rfl ⟨rfl, rfl, rfl, rfl, rfl⟩ rfl rfl rfl rfl rfl (by kernel_rfl) Try.func3 (by kernel_rfl)
    (of_decide_eq_true (by kernel_rfl)) (by unfold Func.isWrapper; first | (rw [if_pos (by decide +kernel)]; kernel_rfl) | (rw [if_neg (by decide +kernel)]; exact ⟨rfl, rfl⟩))
    (fun os started H enc _ => lifted os started H enc)

theorem proved : Rows.FnRepeatedNameFirstRepeatSaid := over
end Go.Proofs.Qxb6603335a.fnRepeatedNameFirstRepeat
