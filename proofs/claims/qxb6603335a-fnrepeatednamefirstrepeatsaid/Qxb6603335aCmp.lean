import Derived.Test.Qxb6603335aCopy
import Derived.Deep.QuietTactic
import Derived.BigQuiet
namespace Go.Proofs.Qxb6603335a
open Go.RowKit

/-- A name as a list. -/
def nl (l : Nat) (d : Nat → Int) : List Int := (List.range l).map d
theorem nl_length (l : Nat) (d : Nat → Int) : (nl l d).length = l := by simp [nl]
theorem nl_drop {l k : Nat} (d : Nat → Int) (h : k < l) : (nl l d).drop k = d k :: (nl l d).drop (k + 1) := by
  rw [List.drop_eq_getElem_cons (by rw [nl_length]; exact h)]
  simp [nl]
theorem nl_end {l k : Nat} (d : Nat → Int) (h : l ≤ k) : (nl l d).drop k = [] := List.drop_eq_nil_of_le (by rw [nl_length]; exact h)
theorem lx_lt {x y : Int} {a b : List Int} (h : x < y) : lx (x :: a) (y :: b) = -1 := by simp [lx, h]
theorem lx_gt {x y : Int} {a b : List Int} (h : y < x) : lx (x :: a) (y :: b) = 1 := by simp only [lx]; rw [if_neg (by omega), if_pos h]
theorem lx_go {x y : Int} {a b : List Int} (h : x = y) : lx (x :: a) (y :: b) = lx a b := by simp only [lx]; rw [if_neg (by omega), if_neg (by omega)]

theorem SlB.pos {w : World} {a : Option Addr} {l c : Nat} {d : Nat → Int} (h : SlB w a l c d) (h0 : 0 < l) : ∃ b off, a = some ⟨b, off, none⟩ ∧ ∀ i, i < l → w.cell? ⟨b, off + i, none⟩ = some (.int .u8 (d i)) := by
  rcases h with ⟨_, rfl, _⟩ | ⟨b, off, rfl, _, hc⟩
  · omega
  · exact ⟨b, off, rfl, hc⟩

set_option maxHeartbeats 2000000 in
theorem compare_any (a1 : Option Addr) (l1 c1 : Nat) (d1 : Nat → Int) (a2 : Option Addr) (l2 c2 : Nat) (d2 : Nat → Int) (w : World) (hl1 : l1 ≤ 1048576) (hl2 : l2 ≤ 1048576) (h1 : SlB w a1 l1 c1 d1) (h2 : SlB w a2 l2 c2 d2) :
    Calls Try.prog 14 #[.slice a1 l1 c1, .slice a2 l2 c2] w fun e w' => e = .returned (.int .i64 (lx (nl l1 d1) (nl l2 d2))) ∧ ∃ m, w' = w.drewN m := by
  have H1 : Hid (SlB w a1 l1 c1 d1) := h1
  have H2 : Hid (SlB w a2 l2 c2 d2) := h2
  obtain ⟨R, hR⟩ : ∃ R, R = lx (nl l1 d1) (nl l2 d2) := ⟨_, rfl⟩
  rw [← hR]
  have HR : Hid (R = lx ((nl l1 d1).drop 0) ((nl l2 d2).drop 0)) := hR
  clear hR h1 h2
  by_cases hlt : l2 < l1
  · have t0 : decide (l2 < l1) = true := decide_eq_true hlt
    go_enter Try.func14, Try.ntmps14
    go_wp2
    go_loopw [6] (fun i wr => ∃ k : Nat, k ≤ l2 ∧ i = .int .i64 (k : Int) ∧ Hid (∃ q, wr = w.drewN q) ∧ Hid (R = lx ((nl l1 d1).drop k) ((nl l2 d2).drop k))) (fun i _ => l2 - (intOf i).toNat)
    case atStart => exact ⟨0, Nat.zero_le _, rfl, ⟨0, rfl⟩, HR⟩
    case round =>
      obtain ⟨k, hk, rfl, hwr, hr⟩ := hrel
      obtain ⟨q, rfl⟩ := hwr.out
      clear HR hwr
      by_cases hkm : k < l2
      · obtain ⟨b1, o1, rfl, hc1⟩ := H1.out.pos (by omega)
        obtain ⟨b2, o2, rfl, hc2⟩ := H2.out.pos (by omega)
        have e1 := hc1 k (by omega)
        have e2 := hc2 k (by omega)
        have hr2 := hr.out
        rw [nl_drop d1 (show k < l1 by omega), nl_drop d2 (show k < l2 by omega)] at hr2
        obtain ⟨x, hx⟩ : ∃ x, x = d1 k := ⟨_, rfl⟩
        obtain ⟨y, hy⟩ : ∃ y, y = d2 k := ⟨_, rfl⟩
        rw [← hx] at e1 hr2
        rw [← hy] at e2 hr2
        have i1 : (k : Int) < (l1 : Int) := by omega
        have i2 : (k : Int) < (l2 : Int) := by omega
        clear hc1 hc2 hx hy hr H1 H2
        rcases Int.lt_trichotomy x y with hxy | hxy | hxy
        · have HF : Hid (R = -1) := by rw [lx_lt hxy] at hr2; exact hr2
          clear hr2
          go_wp2
          go_quiet (fail)
          go_wp2
          go_ret
          exact ⟨by rw [HF.out]; rfl, _, World.drewN_drewN _ _ _⟩
        · have HN : Hid (R = lx ((nl l1 d1).drop (k + 1)) ((nl l2 d2).drop (k + 1))) := by rw [lx_go hxy] at hr2; exact hr2
          have t1 : decide (x < y) = false := decide_eq_false (by omega)
          have t2 : decide (y < x) = false := decide_eq_false (by omega)
          have n1 : ¬ x < y := by omega
          have n2 : ¬ y < x := by omega
          clear hr2 hxy
          go_wp2
          go_quiet (fail)
          go_wp2
          go_quiet (fail)
          go_wp2
          go_roundw
          case rel => exact ⟨k + 1, by omega, by go_num, ⟨_, rfl⟩, HN⟩
          case measure => simp [intOf]; omega
        · have HF : Hid (R = 1) := by rw [lx_gt hxy] at hr2; exact hr2
          have t1 : decide (x < y) = false := decide_eq_false (by omega)
          have n1 : ¬ x < y := by omega
          clear hr2
          go_wp2
          go_quiet (fail)
          go_wp2
          go_quiet (fail)
          go_wp2
          go_ret
          exact ⟨by rw [HF.out]; rfl, _, by rw [World.drewN_drewN, World.drewN_drewN]⟩
      · obtain rfl : k = l2 := by omega
        have hr2 := hr.out
        rw [nl_end d2 (Nat.le_refl _), nl_drop d1 hlt] at hr2
        have HF : Hid (R = 1) := hr2
        have t1 : decide (k < l1) = true := decide_eq_true hlt
        have t2 : decide (l1 < k) = false := decide_eq_false (by omega)
        clear hr hr2
        go_wp2
        go_ret
        exact ⟨by rw [HF.out]; rfl, _, rfl⟩
  · have t0 : decide (l2 < l1) = false := decide_eq_false hlt
    go_enter Try.func14, Try.ntmps14
    go_wp2
    go_loopw [6] (fun i wr => ∃ k : Nat, k ≤ l1 ∧ i = .int .i64 (k : Int) ∧ Hid (∃ q, wr = w.drewN q) ∧ Hid (R = lx ((nl l1 d1).drop k) ((nl l2 d2).drop k))) (fun i _ => l1 - (intOf i).toNat)
    case atStart => exact ⟨0, Nat.zero_le _, rfl, ⟨0, rfl⟩, HR⟩
    case round =>
      obtain ⟨k, hk, rfl, hwr, hr⟩ := hrel
      obtain ⟨q, rfl⟩ := hwr.out
      clear HR hwr
      by_cases hkm : k < l1
      · obtain ⟨b1, o1, rfl, hc1⟩ := H1.out.pos (by omega)
        obtain ⟨b2, o2, rfl, hc2⟩ := H2.out.pos (by omega)
        have e1 := hc1 k (by omega)
        have e2 := hc2 k (by omega)
        have hr2 := hr.out
        rw [nl_drop d1 (show k < l1 by omega), nl_drop d2 (show k < l2 by omega)] at hr2
        obtain ⟨x, hx⟩ : ∃ x, x = d1 k := ⟨_, rfl⟩
        obtain ⟨y, hy⟩ : ∃ y, y = d2 k := ⟨_, rfl⟩
        rw [← hx] at e1 hr2
        rw [← hy] at e2 hr2
        have i1 : (k : Int) < (l1 : Int) := by omega
        have i2 : (k : Int) < (l2 : Int) := by omega
        clear hc1 hc2 hx hy hr H1 H2
        rcases Int.lt_trichotomy x y with hxy | hxy | hxy
        · have HF : Hid (R = -1) := by rw [lx_lt hxy] at hr2; exact hr2
          clear hr2
          go_wp2
          go_quiet (fail)
          go_wp2
          go_ret
          exact ⟨by rw [HF.out]; rfl, _, World.drewN_drewN _ _ _⟩
        · have HN : Hid (R = lx ((nl l1 d1).drop (k + 1)) ((nl l2 d2).drop (k + 1))) := by rw [lx_go hxy] at hr2; exact hr2
          have t1 : decide (x < y) = false := decide_eq_false (by omega)
          have t2 : decide (y < x) = false := decide_eq_false (by omega)
          have n1 : ¬ x < y := by omega
          have n2 : ¬ y < x := by omega
          clear hr2 hxy
          go_wp2
          go_quiet (fail)
          go_wp2
          go_quiet (fail)
          go_wp2
          go_roundw
          case rel => exact ⟨k + 1, by omega, by go_num, ⟨_, rfl⟩, HN⟩
          case measure => simp [intOf]; omega
        · have HF : Hid (R = 1) := by rw [lx_gt hxy] at hr2; exact hr2
          have t1 : decide (x < y) = false := decide_eq_false (by omega)
          have n1 : ¬ x < y := by omega
          clear hr2
          go_wp2
          go_quiet (fail)
          go_wp2
          go_quiet (fail)
          go_wp2
          go_ret
          exact ⟨by rw [HF.out]; rfl, _, by rw [World.drewN_drewN, World.drewN_drewN]⟩
      · obtain rfl : k = l1 := by omega
        by_cases hll : k < l2
        · have hr2 := hr.out
          rw [nl_end d1 (Nat.le_refl _), nl_drop d2 hll] at hr2
          have HF : Hid (R = -1) := hr2
          clear hr hr2
          go_wp2
          go_ret
          exact ⟨by rw [HF.out]; rfl, _, rfl⟩
        · obtain rfl : k = l2 := by omega
          have hr2 := hr.out
          rw [nl_end d1 (Nat.le_refl _), nl_end d2 (Nat.le_refl _)] at hr2
          have HF : Hid (R = 0) := hr2
          clear hr hr2
          go_wp2
          go_ret
          exact ⟨by rw [HF.out]; rfl, _, rfl⟩
end Go.Proofs.Qxb6603335a
