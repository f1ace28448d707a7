import Derived.Test.Qxb6602604aBase
namespace Go.Proofs.Qxb6602604a
open Go.RowKit

/-- The sum of the first n lengths. -/
def sumTo (L : Nat → Nat) : Nat → Nat
  | 0 => 0
  | n + 1 => sumTo L n + L n
theorem sumTo_le (L : Nat → Nat) {a b : Nat} (h : a ≤ b) : sumTo L a ≤ sumTo L b := by
  induction b with
  | zero => rw [Nat.le_zero.1 h]; exact Nat.le_refl _
  | succ b ih =>
    rcases Nat.lt_or_ge a (b + 1) with h' | h'
    · have := ih (by omega); simp only [sumTo]; omega
    · have : a = b + 1 := by omega
      rw [this]; exact Nat.le_refl _
theorem sumTo_split (L : Nat → Nat) (k m : Nat) : sumTo L (k + m) = sumTo L k + sumTo (fun r => L (k + r)) m := by
  induction m with
  | zero => rfl
  | succ m ih => rw [← Nat.add_assoc]; simp only [sumTo]; rw [ih]; omega

/-- False is returned; or true is, and P holds. -/
def BoolOr (P : Prop) (e : Ending) : Prop := e = .returned (.bool false) ∨ (e = .returned (.bool true) ∧ P)

/-- A row of slices: what 'pieces' leads to. -/
def PRow (w : World) (ao : Option Addr) (n : Nat) (A : Nat → Option Addr) (L C : Nat → Nat) : Prop :=
  0 < n → ∃ b off, ao = some ⟨b, off, none⟩ ∧ ∀ r, r < n → w.cell? ⟨b, off + r, none⟩ = some (.slice (A r) (L r) (C r))

set_option maxHeartbeats 400000 in
theorem length_any (ao : Option Addr) (n cap : Nat) (A : Nat → Option Addr) (L C : Nat → Nat) (w : World) (hn : n ≤ 65536) (hs : sumTo L n ≤ 1048576) (hrow : PRow w ao n A L C) :
    Calls Try.prog 21 #[.slice ao n cap] w fun e w' => e = .returned (.int .i64 (sumTo L n : Nat)) ∧ w' = w := by
  have HR : Hid (PRow w ao n A L C) := hrow
  clear hrow
  go_enter Try.func21, Try.ntmps21
  go_wp2
  go_loop [3, 8] (fun t i => ∃ k : Nat, k ≤ n ∧ i = .int .i64 k ∧ t = .int .i64 (sumTo L k : Nat)) (fun _ i => n - (intOf i).toNat)
  case atStart => exact ⟨0, Nat.zero_le _, rfl, rfl⟩
  case round =>
    obtain ⟨k, hk, rfl, rfl⟩ := hrel
    by_cases hlt : k < n
    · obtain ⟨b, off, rfl, hc⟩ := HR.out (by omega)
      have hck := hc k hlt
      have h1 := sumTo_le L (show k + 1 ≤ n by omega)
      simp only [sumTo] at h1
      clear hc HR
      go_wp2
      go_round
      case rel => exact ⟨k + 1, by omega, by go_num, by simp only [sumTo]; go_num⟩
      case measure => simp [intOf]; omega
    · obtain rfl : k = n := by omega
      go_wp2
      go_ret
      exact ⟨rfl, rfl⟩

set_option maxHeartbeats 400000 in
theorem zzlength_any (ao : Option Addr) (n cap : Nat) (A : Nat → Option Addr) (L C : Nat → Nat) (w : World) (hn : n ≤ 65536) (hs : sumTo L n ≤ 1048576) (hrow : PRow w ao n A L C) :
    Calls Try.prog 10 #[.slice ao n cap] w fun e w' => e = .returned (.int .i64 (sumTo L n : Nat)) ∧ w' = w := by
  have H := length_any ao n cap A L C w hn hs hrow
  clear hrow
  go_enter Try.func10, Try.ntmps10
  go_wp2_with (go_at_call 21; refine H.mono ?_; rintro e w' ⟨rfl, rfl⟩)
  go_ret
  exact ⟨rfl, rfl⟩

set_option maxHeartbeats 400000 in
theorem zz8_any (ao : Option Addr) (n cap : Nat) (k0 : Int) (A : Nat → Option Addr) (L C : Nat → Nat) (w : World) (hm : n ≤ maxLen) (hL : ∀ r, r < n → L r ≤ maxLen) (hrow : PRow w ao n A L C) :
    Calls Try.prog 8 #[.slice ao n cap, .int .i64 k0] w fun e w' => BoolOr (∀ r, r < n → L r ≤ 1048576) e ∧ w' = w := by
  have HR : Hid (PRow w ao n A L C) := hrow
  have HL : Hid (∀ r, r < n → L r ≤ maxLen) := hL
  clear hrow hL
  unfold maxLen at hm
  by_cases h0 : n ≤ 1048576
  · go_enter Try.func8, Try.ntmps8
    go_wp2
    go_loop [5, 6] (fun t i => ∃ k q : Nat, k ≤ n ∧ i = .int .i64 k ∧ t = .int .i64 q ∧ q ≤ 1048576 ∧ ∀ r, r < k → L r ≤ 1048576) (fun _ i => n - (intOf i).toNat)
    case atStart => exact ⟨0, n, Nat.zero_le _, rfl, rfl, h0, fun r hr => absurd hr (Nat.not_lt_zero r)⟩
    case round =>
      obtain ⟨k, q, hk, rfl, rfl, hq, hall⟩ := hrel
      have HA : Hid (∀ r, r < k → L r ≤ 1048576) := hall
      clear hall
      by_cases hlt : k < n
      · obtain ⟨b, off, rfl, hc⟩ := HR.out (by omega)
        have hck := hc k hlt
        have hLk := HL.out k hlt
        unfold maxLen at hLk
        clear hc HR HL
        by_cases h1 : L k ≤ 1048576
        · by_cases h2 : q + L k ≤ 1048576
          · go_wp2
            go_round
            case rel => exact ⟨k + 1, q + L k, by omega, by go_num, by go_num, by omega, fun r hr => by rcases Nat.lt_or_ge r k with h | h; exact HA.out r h; rw [show r = k by omega]; exact h1⟩
            case measure => simp [intOf]; omega
          · go_wp2
            go_ret
            exact ⟨Or.inl rfl, rfl⟩
        · go_wp2
          go_ret
          exact ⟨Or.inl rfl, rfl⟩
      · obtain rfl : k = n := by omega
        go_wp2
        go_ret
        exact ⟨Or.inr ⟨rfl, HA.out⟩, rfl⟩
  · go_enter Try.func8, Try.ntmps8
    go_wp2
    go_ret
    exact ⟨Or.inl rfl, rfl⟩
end Go.Proofs.Qxb6602604a
