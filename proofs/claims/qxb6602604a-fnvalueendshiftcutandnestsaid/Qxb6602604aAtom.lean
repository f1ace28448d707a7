import Derived.Test.Qxb6602604aJson
import Derived.Test.Qxb6602604aLenA
import Derived.Deep.QuietTactic
import Derived.BigQuiet
import Derived.Deep.DeepCutAuto
namespace Go.Proofs.Qxb6602604a
open Go.RowKit

/-- The bytes of a word lie at i. -/
def Word (d : Nat → Int) (n i : Nat) (W : ByteArray) : Prop := ∀ j (hj : j < W.size), i + j < n ∧ d (i + j) = ((W[j]'hj).toNat : Int)
theorem Word.atom {d : Nat → Int} {n i : Nat} {W : ByteArray} (h : Word d n i W) (hl : ∀ j (hj : j < W.size), 97 ≤ (W[j]'hj).toNat ∧ (W[j]'hj).toNat ≤ 122) (h0 : 0 < W.size) : Atom d n i (i + W.size) := by
  refine ⟨by omega, ?_, fun q q1 q2 => ?_⟩
  · have := (h (W.size - 1) (by omega)).1; omega
  · have h1 := h (q - i) (by omega)
    have h2 := hl (q - i) (by omega)
    rw [show i + (q - i) = q by omega] at h1
    left; rw [h1.2]; omega

set_option maxHeartbeats 1000000 in
theorem hasWord_any (b off n cap i : Nat) (W : ByteArray) (d : Nat → Int) (w : World) (hn : n ≤ 16777216) (hi : i ≤ n) (hW : W.size ≤ 16) (hc : ∀ i, i < n → w.cell? ⟨b, off + i, none⟩ = some (.int .u8 (d i))) :
    Calls Try.prog 28 #[.slice (some ⟨b, off, none⟩) n cap, .int .i64 i, .string W] w fun e w' => BoolOr (Word d n i W) e ∧ Below w.heap.size w w' := by
  have HC : Hid (∀ i, i < n → w.cell? ⟨b, off + i, none⟩ = some (.int .u8 (d i))) := hc
  clear hc
  go_enter Try.func28, Try.ntmps28
  go_wp2
  go_loopw [7] (fun t wr => ∃ k : Nat, k ≤ W.size ∧ t = .int .i64 k ∧ Hid (∀ j (hj : j < W.size), j < k → i + j < n ∧ d (i + j) = ((W[j]'hj).toNat : Int)) ∧ Below w.heap.size w wr) (fun t _ => W.size - (intOf t).toNat)
  case atStart => exact ⟨0, Nat.zero_le _, rfl, fun j _ h => absurd h (Nat.not_lt_zero j), Below.refl _ _⟩
  case round =>
    obtain ⟨k, hk, rfl, hall, hbw⟩ := hrel
    by_cases hlt : k < W.size
    · by_cases hin : n ≤ i + k
      · have hd : ((n : Int) ≤ (i : Int) + (k : Int)) := by omega
        go_wp2
        go_quiet (fail)
        go_wp2
        go_ret
        exact ⟨Or.inl rfl, below_drewN hbw _⟩
      · have hck := HC.out (i + k) (by omega)
        have hck2 : wr.cell? ⟨b, off + (i + k), none⟩ = some (.int .u8 (d (i + k))) := by rw [hbw.cell (World.block_lt_of_cell? _ _ hck)]; exact hck
        have hd : decide ((n : Int) ≤ (i : Int) + (k : Int)) = false := decide_eq_false (by omega)
        clear hck HC
        obtain ⟨c, hcd⟩ : ∃ c, c = d (i + k) := ⟨_, rfl⟩
        rw [← hcd] at hck2
        have HCD : Hid (c = d (i + k)) := hcd
        clear hcd
        by_cases hx : c = ((W[k]'hlt).toNat : Int)
        · have hne : (c != ((W[k]'hlt).toNat : Int)) = false := by simp [hx]
          have HX : Hid (c = ((W[k]'hlt).toNat : Int)) := hx
          clear hx
          go_wp2
          go_quiet (fail)
          go_wp2
          go_roundw
          case rel =>
            refine ⟨k + 1, by omega, by go_num, fun j hj hjk => ?_, below_drewN hbw _⟩
            rcases Nat.lt_or_ge j k with h | h
            · exact hall.out j hj h
            · obtain rfl : j = k := by omega
              exact ⟨by omega, by rw [← HCD.out]; exact HX.out⟩
          case measure => simp [intOf]; omega
        · have hne : (c != ((W[k]'hlt).toNat : Int)) = true := by simp [hx]
          clear hx
          go_wp2
          go_quiet (fail)
          go_wp2
          go_ret
          exact ⟨Or.inl rfl, below_drewN hbw _⟩
    · go_wp2
      go_ret
      exact ⟨Or.inr ⟨rfl, fun j hj => hall.out j hj (by omega)⟩, hbw⟩

/-- A digit. -/
def dg (x : Int) : Bool := decide (48 ≤ x) && decide (x ≤ 57)
set_option maxHeartbeats 400000 in
theorem isDigit_any (x : Int) (w : World) : Calls Try.prog 29 #[.int .u8 x] w fun e w' => e = .returned (.bool (dg x)) ∧ w' = w := by
  by_cases h1 : 48 ≤ x
  · by_cases h2 : x ≤ 57
    · have e : dg x = true := by simp [dg, h1, h2]
      rw [e]
      go_enter Try.func29, Try.ntmps29
      go_wp2
      go_ret
      exact ⟨rfl, rfl⟩
    · have e : dg x = false := by simp [dg, h2]
      rw [e]
      go_enter Try.func29, Try.ntmps29
      go_wp2
      go_ret
      exact ⟨rfl, rfl⟩
  · have e : dg x = false := by simp [dg, h1]
    rw [e]
    go_enter Try.func29, Try.ntmps29
    go_wp2
    go_ret
    exact ⟨rfl, rfl⟩
theorem dg_ac {x : Int} (h : dg x = true) : ac x := by
  simp [dg] at h; right; left; exact h

/-- What atomEnd answers: -1, or where an atom ends. -/
def AtE (d : Nat → Int) (n i : Nat) (e : Ending) : Prop := e = .returned (.int .i64 (-1)) ∨ ∃ j : Nat, e = .returned (.int .i64 (j : Int)) ∧ Atom d n i j
/-- All the bytes from i to k are an atom's. -/
def Run (d : Nat → Int) (n i k : Nat) : Prop := i ≤ k ∧ k ≤ n ∧ ∀ q, i ≤ q → q < k → ac (d q)
theorem Run.step {d : Nat → Int} {n i k : Nat} (h : Run d n i k) (hk : k < n) (ha : ac (d k)) : Run d n i (k + 1) :=
  ⟨by have := h.1; omega, by omega, fun q q1 q2 => by
    rcases Nat.lt_or_ge q k with h1 | h1
    · exact h.2.2 q q1 h1
    · rw [show q = k by omega]; exact ha⟩

theorem tru_ok : ∀ j (hj : j < (⟨#[116, 114, 117, 101]⟩ : ByteArray).size), 97 ≤ ((⟨#[116, 114, 117, 101]⟩ : ByteArray)[j]'hj).toNat ∧ ((⟨#[116, 114, 117, 101]⟩ : ByteArray)[j]'hj).toNat ≤ 122 := by
  decide +kernel
theorem nul_ok : ∀ j (hj : j < (⟨#[110, 117, 108, 108]⟩ : ByteArray).size), 97 ≤ ((⟨#[110, 117, 108, 108]⟩ : ByteArray)[j]'hj).toNat ∧ ((⟨#[110, 117, 108, 108]⟩ : ByteArray)[j]'hj).toNat ≤ 122 := by
  decide +kernel
theorem fal_ok : ∀ j (hj : j < (⟨#[102, 97, 108, 115, 101]⟩ : ByteArray).size), 97 ≤ ((⟨#[102, 97, 108, 115, 101]⟩ : ByteArray)[j]'hj).toNat ∧ ((⟨#[102, 97, 108, 115, 101]⟩ : ByteArray)[j]'hj).toNat ≤ 122 := by
  decide +kernel

theorem below_cells {w w1 : World} {b off n : Nat} {d : Nat → Int} (hb : Below w.heap.size w w1) (hc : ∀ i, i < n → w.cell? ⟨b, off + i, none⟩ = some (.int .u8 (d i))) : ∀ i, i < n → w1.cell? ⟨b, off + i, none⟩ = some (.int .u8 (d i)) :=
  fun i hi => by rw [hb.cell (World.block_lt_of_cell? _ _ (hc i hi))]; exact hc i hi

set_option maxHeartbeats 2000000 in
set_option maxRecDepth 10000 in
theorem atomEnd_any (b off n cap i : Nat) (d : Nat → Int) (w : World) (hn : n ≤ 16777216) (hi : i < n) (hc : ∀ i, i < n → w.cell? ⟨b, off + i, none⟩ = some (.int .u8 (d i))) :
    Calls Try.prog 27 #[.slice (some ⟨b, off, none⟩) n cap, .int .i64 i] w fun e w' => AtE d n i e ∧ Below w.heap.size w w' := by
  have HC : Hid (∀ i, i < n → w.cell? ⟨b, off + i, none⟩ = some (.int .u8 (d i))) := hc
  clear hc
  go_enter Try.func27, Try.ntmps27
  go_wp2_with fail
  refine (hasWord_any b off n cap i _ d w hn (by omega) (by decide) HC.out).mono ?_
  rintro e w1 ⟨he, hb1⟩
  rcases he with rfl | ⟨rfl, hw⟩
  rotate_left
  · go_wp2
    go_ret
    exact ⟨Or.inr ⟨i + 4, by go_num, hw.atom tru_ok (by decide)⟩, hb1⟩
  go_wp2_with fail
  refine (hasWord_any b off n cap i _ d w1 hn (by omega) (by decide) (below_cells hb1 HC.out)).mono ?_
  rintro e w2 ⟨he, hb2⟩
  have HB2 : Hid (Below w.heap.size w w2) := hb1.trans (hb2.mono hb1.size)
  clear hb1 hb2
  rcases he with rfl | ⟨rfl, hw⟩
  rotate_left
  · go_wp2
    go_ret
    exact ⟨Or.inr ⟨i + 4, by go_num, hw.atom nul_ok (by decide)⟩, HB2.out⟩
  go_wp2_with fail
  refine (hasWord_any b off n cap i _ d w2 hn (by omega) (by decide) (below_cells HB2.out HC.out)).mono ?_
  rintro e w3 ⟨he, hb3⟩
  have HB3 : Hid (Below w.heap.size w w3) := HB2.out.trans (hb3.mono HB2.out.size)
  clear HB2 hb3
  rcases he with rfl | ⟨rfl, hw⟩
  rotate_left
  · go_wp2
    go_ret
    exact ⟨Or.inr ⟨i + 5, by go_num, hw.atom fal_ok (by decide)⟩, HB3.out⟩
  have hci : w3.cell? ⟨b, off + i, none⟩ = some (.int .u8 (d i)) := below_cells HB3.out HC.out i hi
  go_upto_if 28 with fail
  go_cut [5] (fun s wx => ∃ k : Nat, s = .int .i64 k ∧ Run d n i k ∧ Below w.heap.size w wx)
  case first =>
    by_cases h45 : d i = 45
    · have e45 : (d i == 45) = true := by rw [beq_iff_eq]; exact h45
      have ha : ac (d i) := by rw [h45]; unfold ac; omega
      clear h45
      go_wp2
      go_meet
      case rel => exact ⟨i + 1, by go_num, Run.step ⟨Nat.le_refl _, by omega, fun q q1 q2 => by omega⟩ hi ha, HB3.out⟩
    · have e45 : (d i == 45) = false := by rw [beq_eq_false_iff_ne]; exact h45
      clear h45
      go_wp2
      go_meet
      case rel => exact ⟨i, rfl, ⟨Nat.le_refl _, by omega, fun q q1 q2 => by omega⟩, HB3.out⟩
  case rest =>
    obtain ⟨k, rfl, hrun, hbc⟩ := hcut
    clear hci HB3
    have HRN : Hid (Run d n i k) := hrun
    have hik := hrun.1
    have hkn := hrun.2.1
    have HBC : Hid (Below w.heap.size w wc) := hbc
    clear hrun hbc
    by_cases hlt : k < n
    rotate_left
    · go_wp2
      go_ret
      exact ⟨Or.inl rfl, HBC.out⟩
    have hck : wc.cell? ⟨b, off + k, none⟩ = some (.int .u8 (d k)) := below_cells HBC.out HC.out k hlt
    have tnk : decide (n ≤ k) = false := decide_eq_false (by omega)
    go_upto_if 39 with fail
    go_cut [5] (fun s wx => ∃ q : Nat, s = .int .i64 q ∧ Hid (Run d n i q) ∧ i < q ∧ q ≤ n ∧ Hid (Below w.heap.size w wx))
    case first =>
      by_cases h48 : d k = 48
      · have e48 : (d k == 48) = true := by rw [beq_iff_eq]; exact h48
        have HST : Hid (Run d n i (k + 1)) := HRN.out.step hlt (by rw [h48]; unfold ac; omega)
        clear h48
        go_wp2
        go_meet
        case rel => exact ⟨k + 1, by go_num, HST, by omega, by omega, HBC⟩
      · have e48 : (d k == 48) = false := by rw [beq_eq_false_iff_ne]; exact h48
        by_cases h49 : 49 ≤ d k
        · by_cases h57 : d k ≤ 57
          · have HST : Hid (Run d n i (k + 1)) := HRN.out.step hlt (by unfold ac; omega)
            have t49 : decide ((49 : Int) ≤ d k) = true := decide_eq_true h49
            have t57 : decide (d k ≤ (57 : Int)) = true := decide_eq_true h57
            clear h48 h49 h57
            rw [e48]
            go_wp2
            go_loopw [5] (fun s wr => ∃ q : Nat, s = .int .i64 q ∧ Hid (Run d n i q) ∧ i + 1 ≤ q ∧ q ≤ n ∧ Hid (Below w.heap.size w wr)) (fun s _ => n - (intOf s).toNat)
            case atStart => exact ⟨k + 1, by go_num, HST, by omega, by omega, HBC⟩
            case round =>
              obtain ⟨q, rfl, hq, hq1, hq2, hbw⟩ := hrel
              by_cases hqn : q < n
              · have hcq : wr.cell? ⟨b, off + q, none⟩ = some (.int .u8 (d q)) := below_cells hbw.out HC.out q hqn
                have hdq := isDigit_any (d q) wr
                cases hdg : dg (d q) with
                | true =>
                  rw [hdg] at hdq
                  have HST : Hid (Run d n i (q + 1)) := hq.out.step hqn (dg_ac hdg)
                  clear hdg
                  go_wp2_with (go_at_call 29; refine hdq.mono ?_; rintro e w' ⟨rfl, hw⟩; obtain rfl := hw.symm; clear hw)
                  go_roundw
                  case rel => exact ⟨q + 1, by go_num, HST, by omega, by omega, hbw⟩
                  case measure => simp [intOf]; omega
                | false =>
                  rw [hdg] at hdq
                  clear hdg
                  go_wp2_with (go_at_call 29; refine hdq.mono ?_; rintro e w' ⟨rfl, hw⟩; obtain rfl := hw.symm; clear hw)
                  go_meet
                  case rel => exact ⟨q, rfl, hq, by omega, by omega, hbw⟩
              · have hqn' : decide ((q : Int) < (n : Int)) = false := decide_eq_false (by omega)
                go_wp2
                go_meet
                case rel => exact ⟨q, rfl, hq, by omega, by omega, hbw⟩
          · clear h48
            go_wp2
            go_ret
            exact ⟨Or.inl rfl, HBC.out⟩
        · clear h48
          go_wp2
          go_ret
          exact ⟨Or.inl rfl, HBC.out⟩
    case rest =>
      obtain ⟨k2, rfl, hk2, hk3, hk4, hbc2⟩ := hcut
      clear HRN HBC hck hik hkn hlt
      by_cases hlt2 : k2 < n
      rotate_left
      · have t2 : decide (k2 < n) = false := decide_eq_false hlt2
        go_wp2
        go_ret
        exact ⟨Or.inr ⟨k2, rfl, hk3, hk4, hk2.out.2.2⟩, hbc2.out⟩
      have hck : wc.cell? ⟨b, off + k2, none⟩ = some (.int .u8 (d k2)) := below_cells hbc2.out HC.out k2 hlt2
      go_upto_if 79 with fail
      go_cut [5] (fun s wx => ∃ q : Nat, s = .int .i64 q ∧ Hid (Run d n i q) ∧ i < q ∧ q ≤ n ∧ Hid (Below w.heap.size w wx))
      case first =>
        by_cases h46 : d k2 = 46
        · have e46 : (d k2 == 46) = true := by rw [beq_iff_eq]; exact h46
          have HST : Hid (Run d n i (k2 + 1)) := hk2.out.step hlt2 (by rw [h46]; unfold ac; omega)
          clear h46
          rw [e46]
          go_wp2
          go_loopw [5] (fun s wr => ∃ q : Nat, s = .int .i64 q ∧ Hid (Run d n i q) ∧ k2 + 1 ≤ q ∧ q ≤ n ∧ Hid (Below w.heap.size w wr)) (fun s _ => n - (intOf s).toNat)
          case atStart => exact ⟨(k2 + 1), by go_num, HST, by omega, by omega, hbc2⟩
          case round =>
            obtain ⟨q, rfl, hq, hq1, hq2, hbw⟩ := hrel
            by_cases hqn : q < n
            · have hcq : wr.cell? ⟨b, off + q, none⟩ = some (.int .u8 (d q)) := below_cells hbw.out HC.out q hqn
              have hdq := isDigit_any (d q) wr
              cases hdg : dg (d q) with
              | true =>
                rw [hdg] at hdq
                have HST : Hid (Run d n i (q + 1)) := hq.out.step hqn (dg_ac hdg)
                clear hdg
                go_wp2_with (go_at_call 29; refine hdq.mono ?_; rintro e w' ⟨rfl, hw⟩; obtain rfl := hw.symm; clear hw)
                go_roundw
                case rel => exact ⟨q + 1, by go_num, HST, by omega, by omega, hbw⟩
                case measure => simp [intOf]; omega
              | false =>
                rw [hdg] at hdq
                clear hdg
                by_cases hqs : q = (k2 + 1)
                · have tq : ((q : Int) == ((k2 + 1) : Nat)) = true := by rw [beq_iff_eq, hqs]
                  have tq' : ((q : Int) == (k2 : Int) + 1) = true := by rw [beq_iff_eq, hqs]; omega
                  clear hqs
                  go_wp2_with (go_at_call 29; refine hdq.mono ?_; rintro e w' ⟨rfl, hw⟩; obtain rfl := hw.symm; clear hw)
                  go_ret
                  exact ⟨Or.inl rfl, hbw.out⟩
                · have tq : ((q : Int) == ((k2 + 1) : Nat)) = false := by rw [beq_eq_false_iff_ne]; omega
                  have tq' : ((q : Int) == (k2 : Int) + 1) = false := by rw [beq_eq_false_iff_ne]; omega
                  clear hqs
                  go_wp2_with (go_at_call 29; refine hdq.mono ?_; rintro e w' ⟨rfl, hw⟩; obtain rfl := hw.symm; clear hw)
                  go_meet
                  case rel => exact ⟨q, rfl, hq, by omega, by omega, hbw⟩
            · have hqn' : decide ((q : Int) < (n : Int)) = false := decide_eq_false (by omega)
              by_cases hqs : q = (k2 + 1)
              · have tq : ((q : Int) == ((k2 + 1) : Nat)) = true := by rw [beq_iff_eq, hqs]
                have tq' : ((q : Int) == (k2 : Int) + 1) = true := by rw [beq_iff_eq, hqs]; omega
                clear hqs
                go_wp2
                go_ret
                exact ⟨Or.inl rfl, hbw.out⟩
              · have tq : ((q : Int) == ((k2 + 1) : Nat)) = false := by rw [beq_eq_false_iff_ne]; omega
                have tq' : ((q : Int) == (k2 : Int) + 1) = false := by rw [beq_eq_false_iff_ne]; omega
                clear hqs
                go_wp2
                go_meet
                case rel => exact ⟨q, rfl, hq, by omega, by omega, hbw⟩
        · have e46 : (d k2 == 46) = false := by rw [beq_eq_false_iff_ne]; exact h46
          clear h46
          go_wp2
          go_meet
          case rel => exact ⟨k2, rfl, hk2, by omega, by omega, hbc2⟩
      case rest =>
        obtain ⟨k3, rfl, hm2, hm3, hm4, hbc3⟩ := hcut
        clear hk2 hk3 hk4 hbc2 hlt2 hck
        by_cases hlt3 : k3 < n
        rotate_left
        · have t3 : decide (k3 < n) = false := decide_eq_false hlt3
          go_wp2
          go_ret
          exact ⟨Or.inr ⟨k3, rfl, hm3, hm4, hm2.out.2.2⟩, hbc3.out⟩
        have hck : wc.cell? ⟨b, off + k3, none⟩ = some (.int .u8 (d k3)) := below_cells hbc3.out HC.out k3 hlt3
        go_upto_region 24 with fail
        go_cut [116] (fun s wx => s = .bool (decide (d k3 = 101 ∨ d k3 = 69)) ∧ Hid (Below w.heap.size w wx))
        case first =>
          by_cases h101 : d k3 = 101
          · have e1 : (d k3 == 101) = true := by rw [beq_iff_eq]; exact h101
            have ed : decide (d k3 = 101 ∨ d k3 = 69) = true := decide_eq_true (Or.inl h101)
            have ED : Hid (decide (d k3 = 101 ∨ d k3 = 69) = true) := ed
            clear h101 ed
            go_wp2
            go_meet
            case rel => exact ⟨by rw [ED.out], hbc3⟩
          · by_cases h69 : d k3 = 69
            · have e1 : (d k3 == 101) = false := by rw [beq_eq_false_iff_ne]; exact h101
              have e2 : (d k3 == 69) = true := by rw [beq_iff_eq]; exact h69
              have ed : decide (d k3 = 101 ∨ d k3 = 69) = true := decide_eq_true (Or.inr h69)
              have ED : Hid (decide (d k3 = 101 ∨ d k3 = 69) = true) := ed
              clear h101 h69 ed
              go_wp2
              go_meet
              case rel => exact ⟨by rw [ED.out], hbc3⟩
            · have e1 : (d k3 == 101) = false := by rw [beq_eq_false_iff_ne]; exact h101
              have e2 : (d k3 == 69) = false := by rw [beq_eq_false_iff_ne]; exact h69
              have ed : decide (d k3 = 101 ∨ d k3 = 69) = false := decide_eq_false (by omega)
              have ED : Hid (decide (d k3 = 101 ∨ d k3 = 69) = false) := ed
              clear h101 h69 ed
              go_wp2
              go_meet
              case rel => exact ⟨by rw [ED.out], hbc3⟩
        case rest =>
          obtain ⟨rfl, hbc4⟩ := hcut
          clear hbc3 hck
          by_cases hE : d k3 = 101 ∨ d k3 = 69
          rotate_left
          · rw [decide_eq_false hE]
            clear hE
            go_wp2
            go_ret
            exact ⟨Or.inr ⟨k3, rfl, hm3, hm4, hm2.out.2.2⟩, hbc4.out⟩
          have HS4 : Hid (Run d n i (k3 + 1)) := hm2.out.step hlt3 (by unfold ac; omega)
          rw [decide_eq_true hE]
          clear hE hm2
          go_upto_region 26 with fail
          go_cut [136] (fun s wx => s = .bool (decide (k3 + 1 < n ∧ (d (k3 + 1) = 43 ∨ d (k3 + 1) = 45))) ∧ Hid (Below w.heap.size w wx))
          case first =>
            by_cases hin : k3 + 1 < n
            · have hck : wc.cell? ⟨b, off + (k3 + 1), none⟩ = some (.int .u8 (d (k3 + 1))) := below_cells hbc4.out HC.out (k3 + 1) hin
              have hin2 : (k3 : Int) + 1 < (n : Int) := by omega
              by_cases h43 : d (k3 + 1) = 43
              · have e1 : (d (k3 + 1) == 43) = true := by rw [beq_iff_eq]; exact h43
                have ED : Hid (decide (k3 + 1 < n ∧ (d (k3 + 1) = 43 ∨ d (k3 + 1) = 45)) = true) := decide_eq_true ⟨hin, Or.inl h43⟩
                clear h43
                go_wp2
                go_meet
                case rel => exact ⟨by rw [ED.out], hbc4⟩
              · have e1 : (d (k3 + 1) == 43) = false := by rw [beq_eq_false_iff_ne]; exact h43
                by_cases h45 : d (k3 + 1) = 45
                · have e2 : (d (k3 + 1) == 45) = true := by rw [beq_iff_eq]; exact h45
                  have ED : Hid (decide (k3 + 1 < n ∧ (d (k3 + 1) = 43 ∨ d (k3 + 1) = 45)) = true) := decide_eq_true ⟨hin, Or.inr h45⟩
                  clear h43 h45
                  go_wp2
                  go_meet
                  case rel => exact ⟨by rw [ED.out], hbc4⟩
                · have e2 : (d (k3 + 1) == 45) = false := by rw [beq_eq_false_iff_ne]; exact h45
                  have ED : Hid (decide (k3 + 1 < n ∧ (d (k3 + 1) = 43 ∨ d (k3 + 1) = 45)) = false) := decide_eq_false (by omega)
                  clear h43 h45
                  go_wp2
                  go_meet
                  case rel => exact ⟨by rw [ED.out], hbc4⟩
            · have t4 : decide ((k3 : Int) + 1 < (n : Int)) = false := decide_eq_false (by omega)
              have t5 : decide (k3 + 1 < n) = false := decide_eq_false hin
              have ED : Hid (decide (k3 + 1 < n ∧ (d (k3 + 1) = 43 ∨ d (k3 + 1) = 45)) = false) := decide_eq_false (by omega)
              go_wp2
              go_meet
              case rel => exact ⟨by rw [ED.out], hbc4⟩
          case rest =>
            obtain ⟨rfl, hbc5⟩ := hcut
            clear hbc4
            by_cases hP : k3 + 1 < n ∧ (d (k3 + 1) = 43 ∨ d (k3 + 1) = 45)
            · have HST : Hid (Run d n i (k3 + 2)) := HS4.out.step hP.1 (by unfold ac; omega)
              have hin2 := hP.1
              rw [decide_eq_true hP]
              clear hP HS4
              go_wp2
              go_loopw [5] (fun s wr => ∃ q : Nat, s = .int .i64 q ∧ Hid (Run d n i q) ∧ k3 + 2 ≤ q ∧ q ≤ n ∧ Hid (Below w.heap.size w wr)) (fun s _ => n - (intOf s).toNat)
              case atStart => exact ⟨(k3 + 2), by go_num, HST, by omega, by omega, hbc5⟩
              case round =>
                obtain ⟨q, rfl, hq, hq1, hq2, hbw⟩ := hrel
                by_cases hqn : q < n
                · have hcq : wr.cell? ⟨b, off + q, none⟩ = some (.int .u8 (d q)) := below_cells hbw.out HC.out q hqn
                  have hdq := isDigit_any (d q) wr
                  cases hdg : dg (d q) with
                  | true =>
                    rw [hdg] at hdq
                    have HST : Hid (Run d n i (q + 1)) := hq.out.step hqn (dg_ac hdg)
                    clear hdg
                    go_wp2_with (go_at_call 29; refine hdq.mono ?_; rintro e w' ⟨rfl, hw⟩; obtain rfl := hw.symm; clear hw)
                    go_roundw
                    case rel => exact ⟨q + 1, by go_num, HST, by omega, by omega, hbw⟩
                    case measure => simp [intOf]; omega
                  | false =>
                    rw [hdg] at hdq
                    clear hdg
                    by_cases hqs : q = (k3 + 2)
                    · have tq : ((q : Int) == ((k3 + 2) : Nat)) = true := by rw [beq_iff_eq, hqs]
                      have tq' : ((q : Int) == (k3 : Int) + 1 + 1) = true := by rw [beq_iff_eq, hqs]; omega
                      clear hqs
                      go_wp2_with (go_at_call 29; refine hdq.mono ?_; rintro e w' ⟨rfl, hw⟩; obtain rfl := hw.symm; clear hw)
                      go_ret
                      exact ⟨Or.inl rfl, hbw.out⟩
                    · have tq : ((q : Int) == ((k3 + 2) : Nat)) = false := by rw [beq_eq_false_iff_ne]; omega
                      have tq' : ((q : Int) == (k3 : Int) + 1 + 1) = false := by rw [beq_eq_false_iff_ne]; omega
                      clear hqs
                      go_wp2_with (go_at_call 29; refine hdq.mono ?_; rintro e w' ⟨rfl, hw⟩; obtain rfl := hw.symm; clear hw)
                      go_ret
                      exact ⟨Or.inr ⟨q, rfl, by omega, by omega, hq.out.2.2⟩, hbw.out⟩
                · have hqn' : decide ((q : Int) < (n : Int)) = false := decide_eq_false (by omega)
                  by_cases hqs : q = (k3 + 2)
                  · have tq : ((q : Int) == ((k3 + 2) : Nat)) = true := by rw [beq_iff_eq, hqs]
                    have tq' : ((q : Int) == (k3 : Int) + 1 + 1) = true := by rw [beq_iff_eq, hqs]; omega
                    clear hqs
                    go_wp2
                    go_ret
                    exact ⟨Or.inl rfl, hbw.out⟩
                  · have tq : ((q : Int) == ((k3 + 2) : Nat)) = false := by rw [beq_eq_false_iff_ne]; omega
                    have tq' : ((q : Int) == (k3 : Int) + 1 + 1) = false := by rw [beq_eq_false_iff_ne]; omega
                    clear hqs
                    go_wp2
                    go_ret
                    exact ⟨Or.inr ⟨q, rfl, by omega, by omega, hq.out.2.2⟩, hbw.out⟩
            · have HST : Hid (Run d n i (k3 + 1)) := HS4.out
              rw [decide_eq_false hP]
              clear hP HS4
              go_wp2
              go_loopw [5] (fun s wr => ∃ q : Nat, s = .int .i64 q ∧ Hid (Run d n i q) ∧ k3 + 1 ≤ q ∧ q ≤ n ∧ Hid (Below w.heap.size w wr)) (fun s _ => n - (intOf s).toNat)
              case atStart => exact ⟨(k3 + 1), by go_num, HST, by omega, by omega, hbc5⟩
              case round =>
                obtain ⟨q, rfl, hq, hq1, hq2, hbw⟩ := hrel
                by_cases hqn : q < n
                · have hcq : wr.cell? ⟨b, off + q, none⟩ = some (.int .u8 (d q)) := below_cells hbw.out HC.out q hqn
                  have hdq := isDigit_any (d q) wr
                  cases hdg : dg (d q) with
                  | true =>
                    rw [hdg] at hdq
                    have HST : Hid (Run d n i (q + 1)) := hq.out.step hqn (dg_ac hdg)
                    clear hdg
                    go_wp2_with (go_at_call 29; refine hdq.mono ?_; rintro e w' ⟨rfl, hw⟩; obtain rfl := hw.symm; clear hw)
                    go_roundw
                    case rel => exact ⟨q + 1, by go_num, HST, by omega, by omega, hbw⟩
                    case measure => simp [intOf]; omega
                  | false =>
                    rw [hdg] at hdq
                    clear hdg
                    by_cases hqs : q = (k3 + 1)
                    · have tq : ((q : Int) == ((k3 + 1) : Nat)) = true := by rw [beq_iff_eq, hqs]
                      have tq' : ((q : Int) == (k3 : Int) + 1) = true := by rw [beq_iff_eq, hqs]; omega
                      clear hqs
                      go_wp2_with (go_at_call 29; refine hdq.mono ?_; rintro e w' ⟨rfl, hw⟩; obtain rfl := hw.symm; clear hw)
                      go_ret
                      exact ⟨Or.inl rfl, hbw.out⟩
                    · have tq : ((q : Int) == ((k3 + 1) : Nat)) = false := by rw [beq_eq_false_iff_ne]; omega
                      have tq' : ((q : Int) == (k3 : Int) + 1) = false := by rw [beq_eq_false_iff_ne]; omega
                      clear hqs
                      go_wp2_with (go_at_call 29; refine hdq.mono ?_; rintro e w' ⟨rfl, hw⟩; obtain rfl := hw.symm; clear hw)
                      go_ret
                      exact ⟨Or.inr ⟨q, rfl, by omega, by omega, hq.out.2.2⟩, hbw.out⟩
                · have hqn' : decide ((q : Int) < (n : Int)) = false := decide_eq_false (by omega)
                  by_cases hqs : q = (k3 + 1)
                  · have tq : ((q : Int) == ((k3 + 1) : Nat)) = true := by rw [beq_iff_eq, hqs]
                    have tq' : ((q : Int) == (k3 : Int) + 1) = true := by rw [beq_iff_eq, hqs]; omega
                    clear hqs
                    go_wp2
                    go_ret
                    exact ⟨Or.inl rfl, hbw.out⟩
                  · have tq : ((q : Int) == ((k3 + 1) : Nat)) = false := by rw [beq_eq_false_iff_ne]; omega
                    have tq' : ((q : Int) == (k3 : Int) + 1) = false := by rw [beq_eq_false_iff_ne]; omega
                    clear hqs
                    go_wp2
                    go_ret
                    exact ⟨Or.inr ⟨q, rfl, by omega, by omega, hq.out.2.2⟩, hbw.out⟩
end Go.Proofs.Qxb6602604a
