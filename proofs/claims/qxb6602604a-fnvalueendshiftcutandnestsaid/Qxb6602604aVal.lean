import Derived.Test.Qxb6602604aJson
import Derived.Test.Qxb6602604aLenA
namespace Go.Proofs.Qxb6602604a
open Go.RowKit

set_option maxHeartbeats 400000 in
theorem stringEnd_any (b off n cap s : Nat) (d : Nat → Int) (w : World) (hn : n ≤ 16777216) (hs : s < n) (hc : ∀ i, i < n → w.cell? ⟨b, off + i, none⟩ = some (.int .u8 (d i))) :
    Calls Try.prog 26 #[.slice (some ⟨b, off, none⟩) n cap, .int .i64 s] w fun e w' => e = .returned (.int .i64 (optI (qe d (n - (s + 1)) (s + 1) false))) ∧ w' = w := by
  have H := closing_any b off n cap s d w hn hs hc
  clear hc
  go_enter Try.func26, Try.ntmps26
  go_wp2_with (go_at_call 12; refine H.mono ?_; rintro e w' ⟨rfl, rfl⟩)
  go_ret
  exact ⟨rfl, rfl⟩

/-- What memberKey answers: -1, or one past the colon behind a key. -/
def MkE (d : Nat → Int) (n q : Nat) (e : Ending) : Prop := e = .returned (.int .i64 (-1)) ∨ ∃ j : Nat, e = .returned (.int .i64 (((j + 1 : Nat) : Int))) ∧ Str d n q j ∧ j < n ∧ d j = 58

set_option maxHeartbeats 1000000 in
theorem memberKey_any (b off n cap q : Nat) (Q : Int) (hQ : Q = (q : Int)) (d : Nat → Int) (w : World) (hn : n ≤ 16777216) (hq : q ≤ n) (hc : ∀ i, i < n → w.cell? ⟨b, off + i, none⟩ = some (.int .u8 (d i))) :
    Calls Try.prog 25 #[.slice (some ⟨b, off, none⟩) n cap, .int .i64 Q] w fun e w' => MkE d n q e ∧ w' = w := by
  subst hQ
  by_cases h0 : q < n
  rotate_left
  · have t0 : decide ((n : Int) ≤ (q : Int)) = true := decide_eq_true (by omega)
    clear hc
    go_enter Try.func25, Try.ntmps25
    go_wp2
    go_ret
    exact ⟨Or.inl rfl, rfl⟩
  have hcq := hc q h0
  by_cases h34 : d q = 34
  rotate_left
  · have e34 : (d q != 34) = true := by simp [h34]
    clear hc h34
    go_enter Try.func25, Try.ntmps25
    go_wp2
    go_ret
    exact ⟨Or.inl rfl, rfl⟩
  have H := stringEnd_any b off n cap q d w hn h0 hc
  cases hqe : qe d (n - (q + 1)) (q + 1) false with
  | none =>
    rw [hqe] at H
    simp only [optI] at H
    rw [h34] at hcq
    clear hc h34 hqe
    go_enter Try.func25, Try.ntmps25
    go_wp2_with (go_at_call 26; refine H.mono ?_; rintro e w' ⟨rfl, hw⟩; obtain rfl := hw.symm; clear hw)
    go_ret
    exact ⟨Or.inl rfl, rfl⟩
  | some j =>
    rw [hqe] at H
    simp only [optI] at H
    have hst : Str d n q j := ⟨h0, h34, hqe⟩
    have hb := hst.bounds
    have HST : Hid (Str d n q j) := hst
    rw [h34] at hcq
    clear h34 hqe hst
    by_cases hj : j < n
    rotate_left
    · have t1 : decide ((n : Int) ≤ (j : Int)) = true := decide_eq_true (by omega)
      clear hc
      go_enter Try.func25, Try.ntmps25
      go_wp2_with (go_at_call 26; refine H.mono ?_; rintro e w' ⟨rfl, hw⟩; obtain rfl := hw.symm; clear hw)
      go_ret
      exact ⟨Or.inl rfl, rfl⟩
    have hcj := hc j hj
    by_cases h58 : d j = 58
    · have e58 : (d j != 58) = false := by simp [h58]
      have H58 : Hid (d j = 58) := h58
      clear hc h58
      go_enter Try.func25, Try.ntmps25
      go_wp2_with (go_at_call 26; refine H.mono ?_; rintro e w' ⟨rfl, hw⟩; obtain rfl := hw.symm; clear hw)
      go_ret
      exact ⟨Or.inr ⟨j, by go_num, HST.out, hj, H58.out⟩, rfl⟩
    · have e58 : (d j != 58) = true := by simp [h58]
      clear hc h58
      go_enter Try.func25, Try.ntmps25
      go_wp2_with (go_at_call 26; refine H.mono ?_; rintro e w' ⟨rfl, hw⟩; obtain rfl := hw.symm; clear hw)
      go_ret
      exact ⟨Or.inl rfl, rfl⟩

/-! ### valueEnd -/
theorem ve_lt {d : Nat → Int} {n f k i e : Nat} (h : ve d n f k i = some e) : i < n := by
  cases f with
  | zero => simp [ve] at h
  | succ f => simp only [ve] at h; rcases Nat.lt_or_ge i n with h1 | h1; exact h1; rw [if_pos h1] at h; cases h
theorem ve_open {d : Nat → Int} {n f k i e : Nat} (h : ve d n f k i = some e) (hc : d i = 91 ∨ d i = 123) : ∃ f, va (ve d n f) d n (k + 1) (i + 1) = some e := by
  have hl := ve_lt h
  cases f with
  | zero => simp [ve] at h
  | succ f => simp only [ve] at h; rw [if_neg (by omega), if_pos hc] at h; exact ⟨f, h⟩
theorem ve_close {d : Nat → Int} {n f k i e : Nat} (h : ve d n f k i = some e) (h1 : ¬ (d i = 91 ∨ d i = 123)) (hc : d i = 93 ∨ d i = 125) : ∃ f k', k = k' + 1 ∧ va (ve d n f) d n k' (i + 1) = some e := by
  have hl := ve_lt h
  cases f with
  | zero => simp [ve] at h
  | succ f =>
    simp only [ve] at h
    rw [if_neg (by omega), if_neg h1, if_pos hc] at h
    cases k with
    | zero => simp at h
    | succ k' => rw [if_neg (by omega)] at h; exact ⟨f, k', rfl, h⟩
theorem ve_elem {d : Nat → Int} {n f k i e : Nat} (h : ve d n f k i = some e) (h1 : ¬ (d i = 91 ∨ d i = 123)) (h2 : ¬ (d i = 93 ∨ d i = 125)) : ∃ f r, ee d n i = some r ∧ va (ve d n f) d n k r = some e := by
  have hl := ve_lt h
  cases f with
  | zero => simp [ve] at h
  | succ f =>
    simp only [ve] at h
    rw [if_neg (by omega), if_neg h1, if_neg h2] at h
    cases hr : ee d n i with
    | none => rw [hr] at h; cases h
    | some r => rw [hr] at h; exact ⟨f, r, rfl, h⟩
/-- Behind an item: the end; or on, behind a comma or a colon or not. -/
theorem va_cases {d : Nat → Int} {n f k i e : Nat} (h : va (ve d n f) d n k i = some e) :
    (k = 0 ∧ i = e) ∨ (0 < k ∧ i < n ∧ (d i = 44 ∨ d i = 58) ∧ ve d n f k (i + 1) = some e) ∨ (0 < k ∧ i < n ∧ ¬ (d i = 44 ∨ d i = 58) ∧ ve d n f k i = some e) := by
  unfold va at h
  by_cases h0 : k = 0
  · rw [if_pos h0] at h; left; exact ⟨h0, Option.some.inj h⟩
  · rw [if_neg h0] at h
    by_cases h1 : n ≤ i
    · rw [if_pos h1] at h; cases h
    · rw [if_neg h1] at h
      by_cases h2 : d i = 44 ∨ d i = 58
      · rw [if_pos h2] at h; right; left; exact ⟨by omega, by omega, h2, h⟩
      · rw [if_neg h2] at h; right; right; exact ⟨by omega, by omega, h2, h⟩

set_option maxHeartbeats 4000000 in
theorem valueEnd_any (b off n cap s e : Nat) (d : Nat → Int) (w : World) (hn : n ≤ 16777216) (hh : Head d n 0 s e) (hc : ∀ i, i < n → w.cell? ⟨b, off + i, none⟩ = some (.int .u8 (d i))) :
    Calls Try.prog 24 #[.slice (some ⟨b, off, none⟩) n cap, .int .i64 s] w fun x w' => x = .returned (.int .i64 (e : Int)) ∧ w' = w := by
  have HC : Hid (∀ i, i < n → w.cell? ⟨b, off + i, none⟩ = some (.int .u8 (d i))) := hc
  obtain ⟨f0, hf0⟩ := hh
  have HF : Hid (ve d n f0 0 s = some e) := hf0
  have hs := ve_lt hf0
  clear hc hf0
  go_enter Try.func24, Try.ntmps24
  go_wp2
  go_loop [5, 6] (fun t i => ∃ k p f : Nat, t = .int .i64 (k : Int) ∧ i = .int .i64 (p : Int) ∧ k ≤ p ∧ p < n ∧ Hid (ve d n f k p = some e)) (fun _ i => n - (intOf i).toNat)
  case atStart => exact ⟨0, s, f0, rfl, rfl, by omega, hs, HF⟩
  case round =>
    obtain ⟨k, p, f1, rfl, rfl, hkp, hpn0, hve⟩ := hrel
    have hck := HC.out p hpn0
    clear HF hs
    by_cases h91 : d p = 91
    · obtain ⟨f, hva⟩ := ve_open hve.out (Or.inl h91)
      rw [h91] at hck
      rcases va_cases hva with ⟨hk0, hpe⟩ | ⟨hk0, hpn, hsep, hnx⟩ | ⟨hk0, hpn, hsep, hnx⟩
      · have t0 : (((k : Int) + 1) == 0) = true := by rw [beq_iff_eq]; omega
        have HPE : Hid ((p + 1) = e) := hpe
        clear hk0 hpe hva h91 hve
        go_wp2
        go_ret
        exact ⟨by rw [← HPE.out]; go_num, rfl⟩
      · have t0 : (((k : Int) + 1) == 0) = false := by rw [beq_eq_false_iff_ne]; omega
        have hcp := HC.out ((p + 1)) hpn
        have HNX : Hid (ve d n f (k + 1) ((p + 1) + 1) = some e) := hnx
        have hlt2 := ve_lt hnx
        rcases hsep with h44 | h58
        · rw [h44] at hcp
          clear hnx hva h44 h91 hve
          go_wp2
          go_round
          case rel => exact ⟨(k + 1), (p + 1) + 1, f, by go_num, by go_num, by omega, by omega, HNX⟩
          case measure => simp [intOf]; omega
        · rw [h58] at hcp
          clear hnx hva h58 h91 hve
          go_wp2
          go_round
          case rel => exact ⟨(k + 1), (p + 1) + 1, f, by go_num, by go_num, by omega, by omega, HNX⟩
          case measure => simp [intOf]; omega
      · have t0 : (((k : Int) + 1) == 0) = false := by rw [beq_eq_false_iff_ne]; omega
        have hcp := HC.out ((p + 1)) hpn
        have HNX : Hid (ve d n f (k + 1) (p + 1) = some e) := hnx
        have t44 : (d ((p + 1)) == 44) = false := by rw [beq_eq_false_iff_ne]; omega
        have t58 : (d ((p + 1)) == 58) = false := by rw [beq_eq_false_iff_ne]; omega
        clear hnx hva hsep h91 hve
        go_wp2
        go_round
        case rel => exact ⟨(k + 1), (p + 1), f, by go_num, by go_num, by omega, by omega, HNX⟩
        case measure => simp [intOf]; omega
    by_cases h123 : d p = 123
    · obtain ⟨f, hva⟩ := ve_open hve.out (Or.inr h123)
      rw [h123] at hck
      rcases va_cases hva with ⟨hk0, hpe⟩ | ⟨hk0, hpn, hsep, hnx⟩ | ⟨hk0, hpn, hsep, hnx⟩
      · have t0 : (((k : Int) + 1) == 0) = true := by rw [beq_iff_eq]; omega
        have HPE : Hid ((p + 1) = e) := hpe
        clear hk0 hpe hva h91 h123 hve
        go_wp2
        go_ret
        exact ⟨by rw [← HPE.out]; go_num, rfl⟩
      · have t0 : (((k : Int) + 1) == 0) = false := by rw [beq_eq_false_iff_ne]; omega
        have hcp := HC.out ((p + 1)) hpn
        have HNX : Hid (ve d n f (k + 1) ((p + 1) + 1) = some e) := hnx
        have hlt2 := ve_lt hnx
        rcases hsep with h44 | h58
        · rw [h44] at hcp
          clear hnx hva h44 h91 h123 hve
          go_wp2
          go_round
          case rel => exact ⟨(k + 1), (p + 1) + 1, f, by go_num, by go_num, by omega, by omega, HNX⟩
          case measure => simp [intOf]; omega
        · rw [h58] at hcp
          clear hnx hva h58 h91 h123 hve
          go_wp2
          go_round
          case rel => exact ⟨(k + 1), (p + 1) + 1, f, by go_num, by go_num, by omega, by omega, HNX⟩
          case measure => simp [intOf]; omega
      · have t0 : (((k : Int) + 1) == 0) = false := by rw [beq_eq_false_iff_ne]; omega
        have hcp := HC.out ((p + 1)) hpn
        have HNX : Hid (ve d n f (k + 1) (p + 1) = some e) := hnx
        have t44 : (d ((p + 1)) == 44) = false := by rw [beq_eq_false_iff_ne]; omega
        have t58 : (d ((p + 1)) == 58) = false := by rw [beq_eq_false_iff_ne]; omega
        clear hnx hva hsep h91 h123 hve
        go_wp2
        go_round
        case rel => exact ⟨(k + 1), (p + 1), f, by go_num, by go_num, by omega, by omega, HNX⟩
        case measure => simp [intOf]; omega
    by_cases h93 : d p = 93
    · obtain ⟨f, k', rfl, hva⟩ := ve_close hve.out (by omega) (Or.inl h93)
      rw [h93] at hck
      have hsub : ((k' + 1 : Nat) : Int) - 1 = (k' : Int) := by omega
      rcases va_cases hva with ⟨hk0, hpe⟩ | ⟨hk0, hpn, hsep, hnx⟩ | ⟨hk0, hpn, hsep, hnx⟩
      · have t0 : ((k' : Int) == 0) = true := by rw [beq_iff_eq]; omega
        have HPE : Hid ((p + 1) = e) := hpe
        clear hk0 hpe hva h91 h123 h93 hve
        go_wp2
        go_ret
        exact ⟨by rw [← HPE.out]; go_num, rfl⟩
      · have t0 : ((k' : Int) == 0) = false := by rw [beq_eq_false_iff_ne]; omega
        have hcp := HC.out ((p + 1)) hpn
        have HNX : Hid (ve d n f (k') ((p + 1) + 1) = some e) := hnx
        have hlt2 := ve_lt hnx
        rcases hsep with h44 | h58
        · rw [h44] at hcp
          clear hnx hva h44 h91 h123 h93 hve
          go_wp2
          go_round
          case rel => exact ⟨(k'), (p + 1) + 1, f, by go_num, by go_num, by omega, by omega, HNX⟩
          case measure => simp [intOf]; omega
        · rw [h58] at hcp
          clear hnx hva h58 h91 h123 h93 hve
          go_wp2
          go_round
          case rel => exact ⟨(k'), (p + 1) + 1, f, by go_num, by go_num, by omega, by omega, HNX⟩
          case measure => simp [intOf]; omega
      · have t0 : ((k' : Int) == 0) = false := by rw [beq_eq_false_iff_ne]; omega
        have hcp := HC.out ((p + 1)) hpn
        have HNX : Hid (ve d n f (k') (p + 1) = some e) := hnx
        have t44 : (d ((p + 1)) == 44) = false := by rw [beq_eq_false_iff_ne]; omega
        have t58 : (d ((p + 1)) == 58) = false := by rw [beq_eq_false_iff_ne]; omega
        clear hnx hva hsep h91 h123 h93 hve
        go_wp2
        go_round
        case rel => exact ⟨(k'), (p + 1), f, by go_num, by go_num, by omega, by omega, HNX⟩
        case measure => simp [intOf]; omega
    by_cases h125 : d p = 125
    · obtain ⟨f, k', rfl, hva⟩ := ve_close hve.out (by omega) (Or.inr h125)
      rw [h125] at hck
      have hsub : ((k' + 1 : Nat) : Int) - 1 = (k' : Int) := by omega
      rcases va_cases hva with ⟨hk0, hpe⟩ | ⟨hk0, hpn, hsep, hnx⟩ | ⟨hk0, hpn, hsep, hnx⟩
      · have t0 : ((k' : Int) == 0) = true := by rw [beq_iff_eq]; omega
        have HPE : Hid ((p + 1) = e) := hpe
        clear hk0 hpe hva h91 h123 h93 h125 hve
        go_wp2
        go_ret
        exact ⟨by rw [← HPE.out]; go_num, rfl⟩
      · have t0 : ((k' : Int) == 0) = false := by rw [beq_eq_false_iff_ne]; omega
        have hcp := HC.out ((p + 1)) hpn
        have HNX : Hid (ve d n f (k') ((p + 1) + 1) = some e) := hnx
        have hlt2 := ve_lt hnx
        rcases hsep with h44 | h58
        · rw [h44] at hcp
          clear hnx hva h44 h91 h123 h93 h125 hve
          go_wp2
          go_round
          case rel => exact ⟨(k'), (p + 1) + 1, f, by go_num, by go_num, by omega, by omega, HNX⟩
          case measure => simp [intOf]; omega
        · rw [h58] at hcp
          clear hnx hva h58 h91 h123 h93 h125 hve
          go_wp2
          go_round
          case rel => exact ⟨(k'), (p + 1) + 1, f, by go_num, by go_num, by omega, by omega, HNX⟩
          case measure => simp [intOf]; omega
      · have t0 : ((k' : Int) == 0) = false := by rw [beq_eq_false_iff_ne]; omega
        have hcp := HC.out ((p + 1)) hpn
        have HNX : Hid (ve d n f (k') (p + 1) = some e) := hnx
        have t44 : (d ((p + 1)) == 44) = false := by rw [beq_eq_false_iff_ne]; omega
        have t58 : (d ((p + 1)) == 58) = false := by rw [beq_eq_false_iff_ne]; omega
        clear hnx hva hsep h91 h123 h93 h125 hve
        go_wp2
        go_round
        case rel => exact ⟨(k'), (p + 1), f, by go_num, by go_num, by omega, by omega, HNX⟩
        case measure => simp [intOf]; omega
    obtain ⟨f, r, hee, hva⟩ := ve_elem hve.out (by omega) (by omega)
    obtain ⟨hr1, hr2⟩ := ee_bounds hpn0 hee
    have H := elem_any b off n cap p r d w hn hpn0 hee HC.out
    have e91 : (d p == 91) = false := by rw [beq_eq_false_iff_ne]; exact h91
    have e123 : (d p == 123) = false := by rw [beq_eq_false_iff_ne]; exact h123
    have e93 : (d p == 93) = false := by rw [beq_eq_false_iff_ne]; exact h93
    have e125 : (d p == 125) = false := by rw [beq_eq_false_iff_ne]; exact h125
    clear hee h91 h123 h93 h125
    rcases va_cases hva with ⟨hk0, hpe⟩ | ⟨hk0, hpn, hsep, hnx⟩ | ⟨hk0, hpn, hsep, hnx⟩
    · have t0 : ((k : Int) == 0) = true := by rw [beq_iff_eq]; omega
      have HPE : Hid (r = e) := hpe
      clear hk0 hpe hva hve
      go_wp2_with (go_at_call 22; refine H.mono ?_; rintro x w' ⟨rfl, rfl⟩)
      go_ret
      exact ⟨by rw [← HPE.out]; go_num, rfl⟩
    · have t0 : ((k : Int) == 0) = false := by rw [beq_eq_false_iff_ne]; omega
      have hcp := HC.out (r) hpn
      have HNX : Hid (ve d n f (k) (r + 1) = some e) := hnx
      have hlt2 := ve_lt hnx
      rcases hsep with h44 | h58
      · rw [h44] at hcp
        clear hnx hva h44 hve
        go_wp2_with (go_at_call 22; refine H.mono ?_; rintro x w' ⟨rfl, rfl⟩)
        go_round
        case rel => exact ⟨(k), r + 1, f, by go_num, by go_num, by omega, by omega, HNX⟩
        case measure => simp [intOf]; omega
      · rw [h58] at hcp
        clear hnx hva h58 hve
        go_wp2_with (go_at_call 22; refine H.mono ?_; rintro x w' ⟨rfl, rfl⟩)
        go_round
        case rel => exact ⟨(k), r + 1, f, by go_num, by go_num, by omega, by omega, HNX⟩
        case measure => simp [intOf]; omega
    · have t0 : ((k : Int) == 0) = false := by rw [beq_eq_false_iff_ne]; omega
      have hcp := HC.out (r) hpn
      have HNX : Hid (ve d n f (k) r = some e) := hnx
      have t44 : (d (r) == 44) = false := by rw [beq_eq_false_iff_ne]; omega
      have t58 : (d (r) == 58) = false := by rw [beq_eq_false_iff_ne]; omega
      clear hnx hva hsep hve
      go_wp2_with (go_at_call 22; refine H.mono ?_; rintro x w' ⟨rfl, rfl⟩)
      go_round
      case rel => exact ⟨(k), r, f, by go_num, by go_num, by omega, by omega, HNX⟩
      case measure => simp [intOf]; omega
end Go.Proofs.Qxb6602604a
