import Derived.Test.Qxb6602604aScan
import Derived.ProofKit
namespace Go.Proofs.Qxb6602604a
open Go.RowKit Go.ChangeShapes Go.WideShapes Go.ChangeAt

/-- A row of bytes that came in. -/
def BRow (w : World) (a : Option Addr) (n : Nat) (d : Nat → Int) : Prop := 0 < n → ∃ b off, a = some ⟨b, off, none⟩ ∧ ∀ i, i < n → w.cell? ⟨b, off + i, none⟩ = some (.int .u8 (d i))

theorem brow_of {w : World} {x : Addr} {len cap : Nat} {zs : List Int} (hl : len ≤ cap) (hz : zs.length = cap) (hc : ∀ i, i < zs.length → w.cell? (x.add i) = some (.int .u8 (zs.getD i 0))) :
    BRow w (some x) len (fun i => zs.getD i 0) := by
  intro h0
  obtain ⟨b, off, spot⟩ := x
  have hspot : spot = none := by simpa [Addr.add] using World.cell?_spot (hc 0 (by omega))
  subst hspot
  exact ⟨b, off, rfl, fun i hi => by rw [← add_plain]; exact hc i (by omega)⟩

/-- cloneBytes at a row of plain address. -/
theorem clone_row (b off n cap : Nat) (d : Nat → Int) (w : World) (hn : n ≤ 4194304) (h0 : 0 < n) (hc : ∀ i, i < n → w.cell? ⟨b, off + i, none⟩ = some (.int .u8 (d i))) :
    Calls Try.prog 13 #[.slice (some ⟨b, off, none⟩) n cap] w fun e w' => e = .returned (.slice (some ⟨w.heap.size, 0, none⟩) n n) ∧
      (∀ i, i < n → w'.cell? ⟨w.heap.size, 0 + i, none⟩ = some (.int .u8 (d i))) ∧ Below w.heap.size w w' := by
  refine (clone_some ⟨b, off, none⟩ n cap d w hn (fun i hi => by rw [add_plain]; exact hc i hi) (fun _ _ => World.block_lt_of_cell? _ _ (hc 0 h0))).mono ?_
  rintro e w' ⟨rfl, hr, hb⟩
  exact ⟨rfl, fun i hi => by rw [Nat.zero_add]; exact row_bytes hr i hi, hb⟩

theorem closing_some (b off n cap s r : Nat) (d : Nat → Int) (w : World) (hn : n ≤ 16777216) (hs : s < n) (hr : qe d (n - (s + 1)) (s + 1) false = some r) (hc : ∀ i, i < n → w.cell? ⟨b, off + i, none⟩ = some (.int .u8 (d i))) :
    Calls Try.prog 12 #[.slice (some ⟨b, off, none⟩) n cap, .int .i64 s] w fun e w' => e = .returned (.int .i64 (r : Int)) ∧ w' = w := by
  have h := closing_any b off n cap s d w hn hs hc
  rw [hr] at h
  exact h

/-- The copy lies whole, and nothing old has turned. -/
def St (w wr : World) (n : Nat) (d : Nat → Int) : Prop := (∀ i, i < n → wr.cell? ⟨w.heap.size, 0 + i, none⟩ = some (.int .u8 (d i))) ∧ Below w.heap.size w wr

set_option maxHeartbeats 1000000 in
theorem walk2 (a0 : Option Addr) (n cap : Nat) (d : Nat → Int) (a1 : Int) (w : World) (hm : n ≤ maxLen) (hrow : BRow w a0 n d) :
    Calls Try.prog 4 #[.slice a0 n cap, .int .i64 a1] w fun e w' => e = .returned (.bool true) ∧ Below w.heap.size w w' := by
  have HR : Hid (BRow w a0 n d) := hrow
  clear hrow
  unfold maxLen at hm
  by_cases hn : n ≤ 1048576
  rotate_left
  · go_enter Try.func4, Try.ntmps4
    go_wp2
    go_ret
    exact ⟨rfl, Below.refl _ _⟩
  by_cases h0 : a1 < 0
  · go_enter Try.func4, Try.ntmps4
    go_wp2
    go_ret
    exact ⟨rfl, Below.refl _ _⟩
  by_cases h1 : (n : Int) ≤ a1
  · go_enter Try.func4, Try.ntmps4
    go_wp2
    go_ret
    exact ⟨rfl, Below.refl _ _⟩
  obtain ⟨s, rfl⟩ := Int.eq_ofNat_of_zero_le (show 0 ≤ a1 by omega)
  have hs : s < n := by omega
  obtain ⟨b, off, rfl, hc⟩ := HR.out (by omega)
  have HC : Hid (∀ i, i < n → w.cell? ⟨b, off + i, none⟩ = some (.int .u8 (d i))) := hc
  have hcs := hc s hs
  clear hc HR
  have HCL : Hid (Calls Try.prog 13 #[.slice (some ⟨b, off, none⟩) n cap] w fun e w' => e = .returned (.slice (some ⟨w.heap.size, 0, none⟩) n n) ∧
      (∀ i, i < n → w'.cell? ⟨w.heap.size, 0 + i, none⟩ = some (.int .u8 (d i))) ∧ Below w.heap.size w w') := clone_row b off n cap d w (by omega) (by omega) HC.out
  by_cases h34 : d s = 34
  · rw [h34] at hcs
    have HQ := closing_any b off n cap s d w (by omega) hs HC.out
    cases hq : qe d (n - (s + 1)) (s + 1) false with
    | none =>
      rw [hq] at HQ
      simp only [optI] at HQ
      clear hq HC HCL h34
      go_enter Try.func4, Try.ntmps4
      go_wp2_with (first | (go_at_call 12; refine HQ.mono ?_; rintro e w' ⟨rfl, hw⟩; obtain rfl := hw.symm; clear hw) | (go_at_call 11; go_in))
      go_ret
      exact ⟨rfl, Below.refl _ _⟩
    | some r =>
      have hee : ee d n s = some r := by unfold ee; rw [if_pos h34]; exact hq
      have HE : Hid (ee d n s = some r) := hee
      have HQQ : Hid (qe d (n - (s + 1)) (s + 1) false = some r) := hq
      have H34 : Hid (d s = 34) := h34
      rw [hq] at HQ
      simp only [optI] at HQ
      clear hq hee h34
      go_enter Try.func4, Try.ntmps4
      go_wp2_with (first | (go_at_call 12; refine HQ.mono ?_; rintro e w' ⟨rfl, hw⟩; obtain rfl := hw.symm; clear HQ) | (go_at_call 13; refine HCL.out.mono ?_; rintro e w2 ⟨rfl, hc2, hb2⟩; clear HCL; have hs2 := hc2 s hs; rw [H34.out, Nat.zero_add] at hs2; have HC2 : Hid (∀ i, i < n → w2.cell? ⟨w.heap.size, 0 + i, none⟩ = some (.int .u8 (d i))) := hc2; clear hc2) | (go_at_call 14; refine (zzelem_any w.heap.size 0 n n s r d w2 (by omega) hs HE.out HC2.out).mono ?_; rintro e w' ⟨rfl, hw⟩; obtain rfl := hw.symm; clear hw) | (go_at_call 12; refine (closing_some w.heap.size 0 n n s r d w2 (by omega) hs HQQ.out HC2.out).mono ?_; rintro e w' ⟨rfl, hw⟩; obtain rfl := hw.symm; clear hw) | (go_at_call 11; go_in))
      go_ret
      exact ⟨rfl, hb2⟩
  · have e34 : (d s == 34) = false := by rw [beq_eq_false_iff_ne]; exact h34
    have hee : ee d n s = some (de d (n - (s + 1)) (s + 1)) := by unfold ee; rw [if_neg h34]
    obtain ⟨q1, q2, q3, q4⟩ := de_spec d (n - (s + 1)) (s + 1)
    obtain ⟨R, hR⟩ : ∃ R, R = de d (n - (s + 1)) (s + 1) := ⟨_, rfl⟩
    rw [← hR] at hee q1 q2 q3 q4
    have HE : Hid (ee d n s = some R) := hee
    have HQ3 : Hid (∀ j, s + 1 ≤ j → j < R → dl (d j) = false) := q3
    have HQ4 : Hid (R = s + 1 + (n - (s + 1)) ∨ dl (d R) = true) := q4
    have q5 : R ≤ n := by omega
    have t1 : decide (R ≤ s) = false := decide_eq_false (by omega)
    have t2 : decide (n < R) = false := decide_eq_false (by omega)
    clear hee hR q3 q4 h34 q2
    go_enter Try.func4, Try.ntmps4
    go_wp2_with (first | (go_at_call 13; refine HCL.out.mono ?_; rintro e w2 ⟨rfl, hc2, hb2⟩; clear HCL; have hs2 := hc2 s hs; rw [Nat.zero_add] at hs2; have HC2 : Hid (∀ i, i < n → w2.cell? ⟨w.heap.size, 0 + i, none⟩ = some (.int .u8 (d i))) := hc2; clear hc2) | (go_at_call 14; refine (zzelem_any w.heap.size 0 n n s R d w2 (by omega) hs HE.out HC2.out).mono ?_; rintro e w' ⟨rfl, hw⟩; obtain rfl := hw.symm; clear hw) | (go_at_call 11; go_in))
    clear hcs hs2
    go_loopw [6] (fun i wr => ∃ k : Nat, s < k ∧ k ≤ R ∧ i = .int .i64 k ∧ St w wr n d) (fun i _ => R - (intOf i).toNat)
    case atStart => exact ⟨s + 1, by omega, by omega, by go_num, HC2.out, hb2⟩
    case round =>
      obtain ⟨k, hk1, hk2, rfl, hst⟩ := hrel
      have hbw := hst.2
      by_cases hlt : k < R
      · have hck := hst.1 k (by omega)
        rw [Nat.zero_add] at hck
        have hdk := isDelim_any (d k) wr
        rw [HQ3.out k hk1 hlt] at hdk
        go_wp2_with (go_at_call 15; refine hdk.mono ?_; rintro e w' ⟨rfl, hw⟩; obtain rfl := hw.symm; clear hw)
        go_roundw
        case rel => exact ⟨k + 1, by omega, by omega, by go_num, hst⟩
        case measure => simp [intOf]; omega
      · obtain rfl : k = R := by omega
        by_cases hkn : k = n
        · have ekn : ((k : Int) == (n : Int)) = true := by rw [beq_iff_eq]; omega
          go_wp2
          go_ret
          exact ⟨rfl, hbw⟩
        · have ekn : ((k : Int) == (n : Int)) = false := by rw [beq_eq_false_iff_ne]; omega
          have hck := hst.1 k (by omega)
          rw [Nat.zero_add] at hck
          have hdk := isDelim_any (d k) wr
          rw [show dl (d k) = true by rcases HQ4.out with h | h; omega; exact h] at hdk
          have hkl : k < n := by omega
          clear hkn
          go_wp2_with (go_at_call 15; refine hdk.mono ?_; rintro e w' ⟨rfl, hw⟩; obtain rfl := hw.symm; clear hw)
          go_ret
          exact ⟨rfl, hbw⟩
end Go.Proofs.Qxb6602604a
