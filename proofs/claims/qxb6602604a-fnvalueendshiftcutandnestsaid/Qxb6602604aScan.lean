import Derived.Test.Qxb6602604aBase
namespace Go.Proofs.Qxb6602604a
open Go.RowKit

/-! ### The plain functions -/
/-- A delimiter. -/
def dl (x : Int) : Bool := x == 44 || x == 93 || x == 125 || x == 32 || x == 9 || x == 13 || x == 10
theorem dl_no {x : Int} (h : dl x = false) : (x == 44) = false ∧ (x == 93) = false ∧ (x == 125) = false ∧ (x == 32) = false ∧ (x == 9) = false ∧ (x == 13) = false ∧ (x == 10) = false := by
  simp [dl] at h ⊢; simpa [and_assoc] using h
theorem dl_yes {x : Int} (h : dl x = true) : x = 44 ∨ x = 93 ∨ x = 125 ∨ x = 32 ∨ x = 9 ∨ x = 13 ∨ x = 10 := by
  simp [dl] at h; simpa [or_assoc] using h

/-- The first delimiter from i on, k bytes being left; else the end. -/
def de (d : Nat → Int) : Nat → Nat → Nat
  | 0, i => i
  | k + 1, i => if dl (d i) then i else de d k (i + 1)
theorem de_step {d : Nat → Int} {n k : Nat} (h : k < n) (hd : dl (d k) = false) : de d (n - k) k = de d (n - (k + 1)) (k + 1) := by
  rw [show n - k = (n - (k + 1)) + 1 by omega]; simp [de, hd]
theorem de_stop {d : Nat → Int} {n k : Nat} (h : k < n) (hd : dl (d k) = true) : de d (n - k) k = k := by
  rw [show n - k = (n - (k + 1)) + 1 by omega]; simp [de, hd]
theorem de_end (d : Nat → Int) (n : Nat) : de d (n - n) n = n := by simp [de]
theorem de_spec (d : Nat → Int) : ∀ (k i : Nat), i ≤ de d k i ∧ de d k i ≤ i + k ∧ (∀ j, i ≤ j → j < de d k i → dl (d j) = false) ∧ (de d k i = i + k ∨ dl (d (de d k i)) = true)
  | 0, i => ⟨Nat.le_refl _, Nat.le_refl _, fun j h1 h2 => absurd h2 (by simp [de]; omega), Or.inl rfl⟩
  | k + 1, i => by
    have ih := de_spec d k (i + 1)
    cases h : dl (d i) with
    | true => simp [de, h]; exact fun j h1 h2 => by omega
    | false =>
      have e : de d (k + 1) i = de d k (i + 1) := by simp [de, h]
      rw [e]
      refine ⟨by omega, by omega, fun j h1 h2 => ?_, ?_⟩
      · by_cases hj : j = i
        · rw [hj]; exact h
        · exact ih.2.2.1 j (by omega) h2
      · rcases ih.2.2.2 with h3 | h3
        · left; omega
        · right; exact h3
/-- What the scan comes to is fixed by what it must meet. -/
theorem de_eq {d : Nat → Int} {n s r : Nat} (h1 : s ≤ r) (h2 : r ≤ n) (h3 : ∀ j, s ≤ j → j < r → dl (d j) = false) (h4 : r = n ∨ dl (d r) = true) : de d (n - s) s = r := by
  obtain ⟨a1, a2, a3, a4⟩ := de_spec d (n - s) s
  rcases Nat.lt_trichotomy (de d (n - s) s) r with h | h | h
  · rcases a4 with h5 | h5
    · omega
    · have := h3 _ a1 h; rw [this] at h5; cases h5
  · exact h
  · rcases h4 with h5 | h5
    · omega
    · have := a3 r h1 h; rw [this] at h5; cases h5

/-- One past the closing quote, k bytes being left from i on; 'esc': the byte at i is escaped. -/
def qe (d : Nat → Int) : Nat → Nat → Bool → Option Nat
  | 0, _, _ => none
  | k + 1, i, esc => if esc then qe d k (i + 1) false else if d i = 34 then some (i + 1) else qe d k (i + 1) (d i == 92)
theorem qe_end (d : Nat → Int) (n : Nat) (b : Bool) : qe d (n - n) n b = none := by simp [qe]
theorem qe_esc {d : Nat → Int} {n k : Nat} (h : k < n) : qe d (n - k) k true = qe d (n - (k + 1)) (k + 1) false := by
  rw [show n - k = (n - (k + 1)) + 1 by omega]; simp [qe]
theorem qe_quote {d : Nat → Int} {n k : Nat} (h : k < n) (hd : d k = 34) : qe d (n - k) k false = some (k + 1) := by
  rw [show n - k = (n - (k + 1)) + 1 by omega]; simp [qe, hd]
theorem qe_back {d : Nat → Int} {n k : Nat} (h : k < n) (hd : d k = 92) : qe d (n - k) k false = qe d (n - (k + 1)) (k + 1) true := by
  rw [show n - k = (n - (k + 1)) + 1 by omega]; simp [qe, hd]
theorem qe_plain {d : Nat → Int} {n k : Nat} (h : k < n) (h1 : d k ≠ 34) (h2 : d k ≠ 92) : qe d (n - k) k false = qe d (n - (k + 1)) (k + 1) false := by
  rw [show n - k = (n - (k + 1)) + 1 by omega]; simp [qe, h1, show (d k == 92) = false from beq_eq_false_iff_ne.2 h2]
theorem qe_lt {d : Nat → Int} {n k r : Nat} {b : Bool} (h : qe d (n - k) k b = some r) : k < n := by
  rcases Nat.lt_or_ge k n with h' | h'
  · exact h'
  · rw [show n - k = 0 by omega] at h; simp [qe] at h
theorem qe_bounds (d : Nat → Int) : ∀ (k i r : Nat) (b : Bool), qe d k i b = some r → i < r ∧ r ≤ i + k
  | 0, _, _, _, h => by simp [qe] at h
  | k + 1, i, r, b, h => by
    simp only [qe] at h
    split at h
    · have := qe_bounds d k (i + 1) r false h; omega
    · split at h
      · simp at h; omega
      · have := qe_bounds d k (i + 1) r _ h; omega
/-- The scan hangs only on the bytes up to its end: elsewhere the same bytes give the same end, shifted. -/
theorem qe_shift {d d' : Nat → Int} : ∀ (k i r : Nat) (b : Bool), qe d k i b = some r → ∀ (i' k' : Nat), (∀ j, i + j < r → d' (i' + j) = d (i + j)) → r - i ≤ k' → qe d' k' i' b = some (i' + (r - i))
  | 0, _, _, _, h => by simp [qe] at h
  | k + 1, i, r, b, h => by
    intro i' k' hd hk
    have hb := qe_bounds d (k + 1) i r b h
    obtain ⟨k'', rfl⟩ : ∃ m, k' = m + 1 := ⟨k' - 1, by omega⟩
    have h0 := hd 0 (by omega)
    simp only [Nat.add_zero] at h0
    have tail : ∀ b', qe d k (i + 1) b' = some r → qe d' k'' (i' + 1) b' = some (i' + (r - i)) := fun b' hb' => by
      have hb2 := qe_bounds d k (i + 1) r b' hb'
      have := qe_shift k (i + 1) r b' hb' (i' + 1) k'' (fun j hj => by have := hd (j + 1) (by omega); rw [show i' + 1 + j = i' + (j + 1) by omega, show i + 1 + j = i + (j + 1) by omega]; exact this) (by omega)
      rw [this]; congr 1; omega
    simp only [qe] at h ⊢
    rw [h0]
    split at h
    · rename_i hb1; rw [if_pos hb1]; exact tail _ h
    · rename_i hb1; rw [if_neg hb1]
      split at h
      · rename_i h34; rw [if_pos h34]; simp at h ⊢; omega
      · rename_i h34; rw [if_neg h34]; exact tail _ h

/-- An option as the Go text tells it. -/
def optI : Option Nat → Int
  | none => -1
  | some r => r
theorem optI_neg {o : Option Nat} (h : optI o < 0) : o = none := by
  cases o with
  | none => rfl
  | some r => simp [optI] at h; omega
theorem optI_some {o : Option Nat} (h : ¬ optI o < 0) : ∃ r, o = some r := by
  cases o with
  | none => simp [optI] at h
  | some r => exact ⟨r, rfl⟩

/-! ### The walks -/
set_option maxHeartbeats 400000 in
theorem isDelim_any (x : Int) (w : World) : Calls Try.prog 15 #[.int .u8 x] w fun e w' => e = .returned (.bool (dl x)) ∧ w' = w := by
  cases hx : dl x with
  | false =>
    obtain ⟨h1, h2, h3, h4, h5, h6, h7⟩ := dl_no hx
    clear hx
    go_enter Try.func15, Try.ntmps15
    go_wp2
    go_ret
    exact ⟨rfl, rfl⟩
  | true =>
    rcases dl_yes hx with rfl | rfl | rfl | rfl | rfl | rfl | rfl
    all_goals
      clear hx
      go_enter Try.func15, Try.ntmps15
      go_wp2
      go_ret
      exact ⟨rfl, rfl⟩

set_option maxHeartbeats 1000000 in
theorem closing_any (b off n cap s : Nat) (d : Nat → Int) (w : World) (hn : n ≤ 16777216) (hs : s < n) (hc : ∀ i, i < n → w.cell? ⟨b, off + i, none⟩ = some (.int .u8 (d i))) :
    Calls Try.prog 12 #[.slice (some ⟨b, off, none⟩) n cap, .int .i64 s] w fun e w' => e = .returned (.int .i64 (optI (qe d (n - (s + 1)) (s + 1) false))) ∧ w' = w := by
  have HC : Hid (∀ i, i < n → w.cell? ⟨b, off + i, none⟩ = some (.int .u8 (d i))) := hc
  clear hc
  obtain ⟨R, hR⟩ : ∃ R, R = qe d (n - (s + 1)) (s + 1) false := ⟨_, rfl⟩
  rw [← hR]
  have HR : Hid (R = qe d (n - (s + 1)) (s + 1) false) := hR
  clear hR
  go_enter Try.func12, Try.ntmps12
  go_wp2
  go_loop [5, 6] (fun t i => ∃ k run : Nat, k ≤ n ∧ run ≤ k ∧ i = .int .i64 k ∧ t = .int .i64 run ∧ Hid (R = qe d (n - k) k (run % 2 == 1))) (fun _ i => n - (intOf i).toNat)
  case atStart => exact ⟨s + 1, 0, by omega, by omega, by go_num, rfl, HR.out⟩
  case round =>
    obtain ⟨k, run, hk, hrun, rfl, rfl, hq⟩ := hrel
    clear HR
    by_cases hlt : k < n
    · have hck := HC.out k hlt
      clear HC
      obtain ⟨c, hcd⟩ : ∃ c, c = d k := ⟨_, rfl⟩
      rw [← hcd] at hck
      have HCD : Hid (c = d k) := hcd
      clear hcd
      by_cases h34 : c = 34
      · by_cases hp : run % 2 = 0
        · have e1 : ((run : Int) % 2 == 0) = true := by rw [beq_iff_eq]; omega
          have e2 : (c == 34) = true := by rw [beq_iff_eq]; exact h34
          have hfin : R = some (k + 1) := by rw [hq.out, show (run % 2 == 1) = false by simp [hp]]; exact qe_quote hlt (HCD.out ▸ h34)
          have HF : Hid (R = some (k + 1)) := hfin
          clear h34 hq hfin
          go_wp2
          go_ret
          exact ⟨by rw [HF.out]; go_num, rfl⟩
        · have e1 : ((run : Int) % 2 == 0) = false := by rw [beq_eq_false_iff_ne]; omega
          have e2 : (c == 34) = true := by rw [beq_iff_eq]; exact h34
          have e3 : (c == 92) = false := by rw [beq_eq_false_iff_ne]; omega
          have hnx : R = qe d (n - (k + 1)) (k + 1) (0 % 2 == 1) := by rw [hq.out, show (run % 2 == 1) = true by rw [beq_iff_eq]; omega]; exact qe_esc hlt
          have HX : Hid (R = qe d (n - (k + 1)) (k + 1) (0 % 2 == 1)) := hnx
          clear h34 hq hnx
          go_wp2
          go_round
          case rel => exact ⟨k + 1, 0, by omega, by omega, by go_num, rfl, HX⟩
          case measure => simp [intOf]; omega
      · have e2 : (c == 34) = false := by rw [beq_eq_false_iff_ne]; exact h34
        by_cases h92 : c = 92
        · have e3 : (c == 92) = true := by rw [beq_iff_eq]; exact h92
          have hnx : R = qe d (n - (k + 1)) (k + 1) ((run + 1) % 2 == 1) := by
            rw [hq.out]
            by_cases hp : run % 2 = 0
            · rw [show (run % 2 == 1) = false by simp [hp], show ((run + 1) % 2 == 1) = true by rw [beq_iff_eq]; omega]; exact qe_back hlt (HCD.out ▸ h92)
            · rw [show (run % 2 == 1) = true by rw [beq_iff_eq]; omega, show ((run + 1) % 2 == 1) = false by rw [beq_eq_false_iff_ne]; omega]; exact qe_esc hlt
          have HX : Hid (R = qe d (n - (k + 1)) (k + 1) ((run + 1) % 2 == 1)) := hnx
          clear h34 h92 hq hnx
          go_wp2
          go_round
          case rel => exact ⟨k + 1, run + 1, by omega, by omega, by go_num, by go_num, HX⟩
          case measure => simp [intOf]; omega
        · have e3 : (c == 92) = false := by rw [beq_eq_false_iff_ne]; exact h92
          have hnx : R = qe d (n - (k + 1)) (k + 1) (0 % 2 == 1) := by
            rw [hq.out]
            by_cases hp : run % 2 = 0
            · rw [show (run % 2 == 1) = false by simp [hp]]; exact qe_plain hlt (HCD.out ▸ h34) (HCD.out ▸ h92)
            · rw [show (run % 2 == 1) = true by rw [beq_iff_eq]; omega]; exact qe_esc hlt
          have HX : Hid (R = qe d (n - (k + 1)) (k + 1) (0 % 2 == 1)) := hnx
          clear h34 h92 hq hnx
          go_wp2
          go_round
          case rel => exact ⟨k + 1, 0, by omega, by omega, by go_num, rfl, HX⟩
          case measure => simp [intOf]; omega
    · obtain rfl : k = n := by omega
      have hfin : R = none := by rw [hq.out]; exact qe_end _ _ _
      have HF : Hid (R = none) := hfin
      clear hfin hq
      go_wp2
      go_ret
      exact ⟨by rw [HF.out]; rfl, rfl⟩

/-- elementEnd at a quote, the string closing at r. -/
theorem elem_quote (b off n cap s r : Nat) (d : Nat → Int) (w : World) (hn : n ≤ 16777216) (hs : s < n) (hd : d s = 34) (hr : qe d (n - (s + 1)) (s + 1) false = some r)
    (hc : ∀ i, i < n → w.cell? ⟨b, off + i, none⟩ = some (.int .u8 (d i))) :
    Calls Try.prog 22 #[.slice (some ⟨b, off, none⟩) n cap, .int .i64 s] w fun e w' => e = .returned (.int .i64 (r : Int)) ∧ w' = w := by
  have HC : Hid (∀ i, i < n → w.cell? ⟨b, off + i, none⟩ = some (.int .u8 (d i))) := hc
  have HR : Hid (qe d (n - (s + 1)) (s + 1) false = some r) := hr
  have h0 := hc s hs
  rw [hd] at h0
  clear hc hr hd
  go_enter Try.func22, Try.ntmps22
  go_wp2
  go_loop [5] (fun i => ∃ k : Nat, k ≤ n ∧ i = .int .i64 k ∧ Hid (qe d (n - k) k false = some r)) (fun i => n - (intOf i).toNat)
  case atStart => exact ⟨s + 1, by omega, by go_num, HR⟩
  case round =>
    obtain ⟨k, hk, rfl, hq⟩ := hrel
    have hlt := qe_lt hq.out
    have hck := HC.out k hlt
    clear HR h0
    obtain ⟨c, hcd⟩ : ∃ c, c = d k := ⟨_, rfl⟩
    rw [← hcd] at hck
    have HCD : Hid (c = d k) := hcd
    clear hcd
    by_cases h34 : c = 34
    · have e2 : (c != 34) = false := by simp [h34]
      have hfin : k + 1 = r := by have := hq.out; rw [qe_quote hlt (HCD.out ▸ h34)] at this; simpa using this
      have HF : Hid (k + 1 = r) := hfin
      clear hfin h34 hq HC
      go_wp2
      go_ret
      exact ⟨by rw [← HF.out]; go_num, rfl⟩
    · have e2 : (c != 34) = true := by simp [h34]
      by_cases h92 : c = 92
      · have e3 : (c == 92) = true := by rw [beq_iff_eq]; exact h92
        have hnx := hq.out
        rw [qe_back hlt (HCD.out ▸ h92)] at hnx
        have hlt2 := qe_lt hnx
        rw [qe_esc hlt2] at hnx
        have HX : Hid (qe d (n - (k + 2)) (k + 2) false = some r) := hnx
        clear hnx h34 h92 hq HC
        go_wp2
        go_round
        case rel => exact ⟨k + 2, by omega, by go_num, HX⟩
        case measure => simp [intOf]; omega
      · have e3 : (c == 92) = false := by rw [beq_eq_false_iff_ne]; exact h92
        have hnx := hq.out
        rw [qe_plain hlt (HCD.out ▸ h34) (HCD.out ▸ h92)] at hnx
        have HX : Hid (qe d (n - (k + 1)) (k + 1) false = some r) := hnx
        clear hnx h34 h92 hq HC
        go_wp2
        go_round
        case rel => exact ⟨k + 1, by omega, by go_num, HX⟩
        case measure => simp [intOf]; omega

set_option maxHeartbeats 1000000 in
/-- elementEnd at another byte: up to the first delimiter. -/
theorem elem_bare (b off n cap s : Nat) (d : Nat → Int) (w : World) (hn : n ≤ 16777216) (hs : s < n) (hd : d s ≠ 34)
    (hc : ∀ i, i < n → w.cell? ⟨b, off + i, none⟩ = some (.int .u8 (d i))) :
    Calls Try.prog 22 #[.slice (some ⟨b, off, none⟩) n cap, .int .i64 s] w fun e w' => e = .returned (.int .i64 ((de d (n - (s + 1)) (s + 1) : Nat) : Int)) ∧ w' = w := by
  have HC : Hid (∀ i, i < n → w.cell? ⟨b, off + i, none⟩ = some (.int .u8 (d i))) := hc
  obtain ⟨R, hR⟩ : ∃ R, R = de d (n - (s + 1)) (s + 1) := ⟨_, rfl⟩
  rw [← hR]
  have HR : Hid (R = de d (n - (s + 1)) (s + 1)) := hR
  have h0 := hc s hs
  have e0 : (d s == 34) = false := by rw [beq_eq_false_iff_ne]; exact hd
  clear hc hR hd
  go_enter Try.func22, Try.ntmps22
  go_wp2
  go_loop [5] (fun i => ∃ k : Nat, k ≤ n ∧ i = .int .i64 k ∧ Hid (R = de d (n - k) k)) (fun i => n - (intOf i).toNat)
  case atStart => exact ⟨s + 1, by omega, by go_num, HR⟩
  case round =>
    obtain ⟨k, hk, rfl, hq⟩ := hrel
    clear HR
    by_cases hlt : k < n
    · have hck := HC.out k hlt
      obtain ⟨c, hcd⟩ : ∃ c, c = d k := ⟨_, rfl⟩
      rw [← hcd] at hck
      have HCD : Hid (c = d k) := hcd
      clear hcd HC
      cases hx : dl c with
      | false =>
        have hnx := hq.out
        rw [de_step hlt (HCD.out ▸ hx)] at hnx
        have HX : Hid (R = de d (n - (k + 1)) (k + 1)) := hnx
        obtain ⟨h1, h2, h3, h4, h5, h6, h7⟩ := dl_no hx
        clear hnx hx hq
        go_wp2
        go_round
        case rel => exact ⟨k + 1, by omega, by go_num, HX⟩
        case measure => simp [intOf]; omega
      | true =>
        have hnx := hq.out
        rw [de_stop hlt (HCD.out ▸ hx)] at hnx
        have HX : Hid (R = k) := hnx
        have h7 := dl_yes hx
        clear hnx hx hq HCD
        rcases h7 with rfl | rfl | rfl | rfl | rfl | rfl | rfl
        all_goals
          go_wp2
          go_ret
          exact ⟨by rw [HX.out]; rfl, rfl⟩
    · obtain rfl : k = n := by omega
      have hnx := hq.out
      rw [de_end] at hnx
      have HX : Hid (R = k) := hnx
      clear hnx hq HC
      go_wp2
      go_ret
      exact ⟨by rw [HX.out]; rfl, rfl⟩

/-- Where an element ends; none where a string does not close. -/
def ee (d : Nat → Int) (n s : Nat) : Option Nat := if d s = 34 then qe d (n - (s + 1)) (s + 1) false else some (de d (n - (s + 1)) (s + 1))

theorem elem_any (b off n cap s r : Nat) (d : Nat → Int) (w : World) (hn : n ≤ 16777216) (hs : s < n) (hr : ee d n s = some r)
    (hc : ∀ i, i < n → w.cell? ⟨b, off + i, none⟩ = some (.int .u8 (d i))) :
    Calls Try.prog 22 #[.slice (some ⟨b, off, none⟩) n cap, .int .i64 s] w fun e w' => e = .returned (.int .i64 (r : Int)) ∧ w' = w := by
  unfold ee at hr
  by_cases h : d s = 34
  · rw [if_pos h] at hr
    exact elem_quote b off n cap s r d w hn hs h hr hc
  · rw [if_neg h] at hr
    have := elem_bare b off n cap s d w hn hs h hc
    rw [Option.some.inj hr] at this
    exact this

set_option maxHeartbeats 400000 in
theorem zzelem_any (b off n cap s r : Nat) (d : Nat → Int) (w : World) (hn : n ≤ 16777216) (hs : s < n) (hr : ee d n s = some r)
    (hc : ∀ i, i < n → w.cell? ⟨b, off + i, none⟩ = some (.int .u8 (d i))) :
    Calls Try.prog 14 #[.slice (some ⟨b, off, none⟩) n cap, .int .i64 s] w fun e w' => e = .returned (.int .i64 (r : Int)) ∧ w' = w := by
  have H := elem_any b off n cap s r d w hn hs hr hc
  clear hc hr
  go_enter Try.func14, Try.ntmps14
  go_wp2_with (go_at_call 22; refine H.mono ?_; rintro e w' ⟨rfl, rfl⟩)
  go_ret
  exact ⟨rfl, rfl⟩
end Go.Proofs.Qxb6602604a
