import Derived.Test.Qxb6603184aRows
import Derived.WalkKit
import Derived.WalkSpells
import Derived.WalkLawsBesides
namespace Go.Proofs.Qxb6603184a
open Go.RowKit

/-- A byte of the alphabet. -/
def inA (x : Int) : Bool := (decide (97 ≤ x) && decide (x ≤ 122)) || (decide (65 ≤ x) && decide (x ≤ 90)) || (decide (48 ≤ x) && decide (x ≤ 57)) || x == 95 || x == 45
theorem inA_yes {x : Int} (h : inA x = true) : (97 ≤ x ∧ x ≤ 122) ∨ (65 ≤ x ∧ x ≤ 90) ∨ (48 ≤ x ∧ x ≤ 57) ∨ x = 95 ∨ x = 45 := by
  simp [inA] at h; omega
theorem inA_no {x : Int} (h : inA x = false) : (x == 95) = false ∧ (x == 45) = false ∧ (x < 48 ∨ (57 < x ∧ x < 65) ∨ (90 < x ∧ x < 97) ∨ 122 < x) := by
  rw [beq_eq_false_iff_ne, beq_eq_false_iff_ne]
  simp [inA] at h; omega
def abc : ByteArray := ⟨#[97, 98, 99, 100, 101, 102, 103, 104, 105, 106, 107, 108, 109, 110, 111, 112, 113, 114, 115, 116, 117, 118, 119, 120, 121, 122, 65, 66, 67, 68, 69, 70, 71, 72, 73, 74, 75, 76, 77, 78, 79, 80, 81, 82, 83, 84, 85, 86, 87, 88, 89, 90, 48, 49, 50, 51, 52, 53, 54, 55, 56, 57, 95, 45]⟩
theorem abc_size : abc.size = 64 := by decide +kernel
theorem abc_in : ∀ k (h : k < abc.size), inA (((abc[k]'h).toNat : Nat) : Int) = true := by decide +kernel
theorem abc_all : (List.range 256).all (fun c => !inA (c : Int) || (List.range 64).any fun k => (abc.get! k).toNat == c) = true := by decide +kernel
theorem abc_has (c : Nat) (hc : c < 256) (h : inA (c : Int) = true) : ∃ k, ∃ hk : k < abc.size, (abc[k]'hk).toNat = c := by
  have h1 := List.all_eq_true.1 abc_all c (List.mem_range.2 hc)
  rw [h] at h1
  simp only [Bool.not_true, Bool.false_or, List.any_eq_true, List.mem_range, beq_iff_eq] at h1
  obtain ⟨k, hk, e⟩ := h1
  have hk' : k < abc.size := by rw [abc_size]; exact hk
  exact ⟨k, hk', by rw [← e]; congr 1; exact (get_at abc k hk').symm⟩

set_option maxHeartbeats 1000000 in
theorem inAlpha_any (c : Nat) (w : World) (hc : c < 256) : Calls Try.prog 18 #[.int .u8 (c : Int)] w fun e w' => e = .returned (.bool (inA c)) ∧ w' = w := by
  go_enter Try.func18, Try.ntmps18
  go_wp2
  rw [show (⟨#[97, 98, 99, 100, 101, 102, 103, 104, 105, 106, 107, 108, 109, 110, 111, 112, 113, 114, 115, 116, 117, 118, 119, 120, 121, 122, 65, 66, 67, 68, 69, 70, 71, 72, 73, 74, 75, 76, 77, 78, 79, 80, 81, 82, 83, 84, 85, 86, 87, 88, 89, 90, 48, 49, 50, 51, 52, 53, 54, 55, 56, 57, 95, 45]⟩ : ByteArray) = abc from rfl]
  have hsz := abc_size
  go_loop [3] (fun i => ∃ k : Nat, k ≤ 64 ∧ i = .int .i64 k ∧ Hid (∀ j (hj : j < abc.size), j < k → (abc[j]'hj).toNat ≠ c)) (fun i => 64 - (intOf i).toNat)
  case atStart => exact ⟨0, Nat.zero_le _, rfl, fun j _ h => absurd h (Nat.not_lt_zero j)⟩
  case round =>
    obtain ⟨k, hk, rfl, hno⟩ := hrel
    by_cases hlt : k < 64
    · have hlt2 : k < abc.size := by omega
      obtain ⟨x, hx⟩ : ∃ x, x = (abc[k]'hlt2).toNat := ⟨_, rfl⟩
      by_cases hxc : x = c
      · have e1 : ((((abc[k]'hlt2).toNat : Nat) : Int) == (c : Int)) = true := by rw [beq_iff_eq, ← hx]; omega
        have HF : Hid (inA (c : Int) = true) := by rw [← hxc, hx]; exact abc_in k hlt2
        clear hx hxc
        go_wp2
        go_ret
        exact ⟨by rw [HF.out]; rfl, rfl⟩
      · have e1 : ((((abc[k]'hlt2).toNat : Nat) : Int) == (c : Int)) = false := by rw [beq_eq_false_iff_ne, ← hx]; omega
        have HN : Hid (∀ j (hj : j < abc.size), j < k + 1 → (abc[j]'hj).toNat ≠ c) := by
          intro j hj hjk
          rcases Nat.lt_or_ge j k with h | h
          · exact hno.out j hj h
          · obtain rfl : j = k := by omega
            rw [← hx]; exact hxc
        clear hx hxc
        go_wp2
        go_round
        case rel => exact ⟨k + 1, by omega, by go_num, HN⟩
        case measure => simp [intOf]; omega
    · obtain rfl : k = 64 := by omega
      have HF : Hid (inA (c : Int) = false) := by
        cases h : inA (c : Int) with
        | false => rfl
        | true =>
          obtain ⟨j, hj, e⟩ := abc_has c hc h
          exact absurd e (hno.out j hj (by omega))
      go_wp2
      go_ret
      exact ⟨by rw [HF.out]; rfl, rfl⟩

/-- Every byte is in the alphabet. -/
def allIn (s : ByteArray) : Bool := (List.range s.size).all fun j => inA (((s.get! j).toNat : Nat) : Int)
theorem get_of (s : ByteArray) (j : Nat) (hj : j < s.size) : s.get! j = s[j]'hj := get_at s j hj
theorem allIn_true {s : ByteArray} (h : ∀ j (hj : j < s.size), inA (((s[j]'hj).toNat : Nat) : Int) = true) : allIn s = true := by
  unfold allIn
  rw [List.all_eq_true]
  intro j hj
  rw [get_of s j (List.mem_range.1 hj)]; exact h j _
theorem allIn_false {s : ByteArray} {j : Nat} (hj : j < s.size) (h : inA (((s[j]'hj).toNat : Nat) : Int) = false) : allIn s = false := by
  cases ha : allIn s with
  | false => rfl
  | true =>
    unfold allIn at ha
    have := List.all_eq_true.1 ha j (List.mem_range.2 hj)
    rw [get_of s j hj, h] at this
    cases this
theorem isEmpty_of (s : ByteArray) : s.toList.isEmpty = decide (s.size = 0) := by
  have h : s.data.toList.length = s.size := Array.length_toList
  rw [ByteArray.toList_eq, ← h]
  cases s.data.toList <;> simp
def validB (s : ByteArray) : Bool := decide (1 ≤ s.size) && decide (s.size ≤ 64) && allIn s

set_option maxHeartbeats 1000000 in
theorem valid_any (s : ByteArray) (w : World) (hs : s.size ≤ 1048576) : Calls Try.prog 19 #[.string s] w fun e w' => e = .returned (.bool (validB s)) ∧ Below w.heap.size w w' := by
  by_cases h0 : s.size = 0
  · have hv : validB s = false := by simp [validB, h0]
    rw [hv]
    have he : s.toList.isEmpty = true := by rw [isEmpty_of]; exact decide_eq_true h0
    go_enter Try.func19, Try.ntmps19
    go_wp2
    go_ret
    exact ⟨rfl, Below.refl _ _⟩
  have he : s.toList.isEmpty = false := by rw [isEmpty_of]; exact decide_eq_false h0
  by_cases h1 : s.size ≤ 64
  rotate_left
  · have hv : validB s = false := by simp [validB, h1]
    rw [hv]
    go_enter Try.func19, Try.ntmps19
    go_wp2
    go_ret
    exact ⟨rfl, Below.refl _ _⟩
  have h2 : 1 ≤ s.size := by omega
  obtain ⟨V, hV⟩ : ∃ V, V = validB s := ⟨_, rfl⟩
  have HV : Hid (V = allIn s) := by show V = allIn s; rw [hV]; simp [validB, h1, h2]
  rw [← hV]
  clear hV h0
  go_enter Try.func19, Try.ntmps19
  go_wp2
  go_loopw [4] (fun _ wr => ∃ p : Nat, p ≤ s.size ∧ wr = w.iter s p ∧ Hid (∀ j (hj : j < s.size), j < p → inA (((s[j]'hj).toNat : Nat) : Int) = true)) (fun _ wr => s.size - wr.iterPos w.heap.size)
  case atStart => exact ⟨0, Nat.zero_le _, rfl, fun j _ h => absurd h (Nat.not_lt_zero j)⟩
  case round =>
    obtain ⟨p, hp, rfl, hall⟩ := hrel
    by_cases hlt : p < s.size
    · by_cases ha : (s[p]'hlt).toNat < 128
      · have hnx : ∀ ty, (Instr.next (.pointer (some ⟨w.heap.size, 0, none⟩)) true ty).run Try.prog (w.iter s p) = _ := fun ty => run_next_ascii w s p ty hlt ha
        obtain ⟨x, hx⟩ : ∃ x, x = (((s[p]'hlt).toNat : Nat) : Int) := ⟨_, rfl⟩
        rw [← hx] at hnx
        cases hin : inA x with
        | true =>
          have HN : Hid (∀ j (hj : j < s.size), j < p + 1 → inA (((s[j]'hj).toNat : Nat) : Int) = true) := by
            intro j hj hjk
            rcases Nat.lt_or_ge j p with h | h
            · exact hall.out j hj h
            · obtain rfl : j = p := by omega
              rw [← hx]; exact hin
          have h5 := inA_yes hin
          clear hin hx ha
          rcases h5 with h5 | h5 | h5 | h5 | h5
          · obtain ⟨h51, h52⟩ := h5
            go_wp2
            go_roundw
            case rel => exact ⟨p + 1, by omega, rfl, HN⟩
            case measure => simp; omega
          · obtain ⟨h51, h52⟩ := h5
            go_wp2
            go_roundw
            case rel => exact ⟨p + 1, by omega, rfl, HN⟩
            case measure => simp; omega
          · obtain ⟨h51, h52⟩ := h5
            go_wp2
            go_roundw
            case rel => exact ⟨p + 1, by omega, rfl, HN⟩
            case measure => simp; omega
          · subst h5
            go_wp2
            go_roundw
            case rel => exact ⟨p + 1, by omega, rfl, HN⟩
            case measure => simp; omega
          · subst h5
            go_wp2
            go_roundw
            case rel => exact ⟨p + 1, by omega, rfl, HN⟩
            case measure => simp; omega
        | false =>
          have HF : Hid (V = false) := by
            show V = false
            rw [HV.out]
            exact allIn_false hlt (by rw [← hx]; exact hin)
          obtain ⟨e95, e45, h5⟩ := inA_no hin
          clear hin hx ha
          rcases h5 with h5 | h5 | h5 | h5
          · go_wp2
            go_ret
            exact ⟨by rw [HF.out]; rfl, (Below.refl _ _).alloc (Nat.le_refl _) _⟩
          · obtain ⟨h51, h52⟩ := h5
            have t57 : decide (x ≤ 57) = false := decide_eq_false (by omega)
            go_wp2
            go_ret
            exact ⟨by rw [HF.out]; rfl, (Below.refl _ _).alloc (Nat.le_refl _) _⟩
          · obtain ⟨h51, h52⟩ := h5
            have t57 : decide (x ≤ 57) = false := decide_eq_false (by omega)
            have t90 : decide (x ≤ 90) = false := decide_eq_false (by omega)
            go_wp2
            go_ret
            exact ⟨by rw [HF.out]; rfl, (Below.refl _ _).alloc (Nat.le_refl _) _⟩
          · have t57 : decide (x ≤ 57) = false := decide_eq_false (by omega)
            have t90 : decide (x ≤ 90) = false := decide_eq_false (by omega)
            have t122 : decide (x ≤ 122) = false := decide_eq_false (by omega)
            go_wp2
            go_ret
            exact ⟨by rw [HF.out]; rfl, (Below.refl _ _).alloc (Nat.le_refl _) _⟩
      · have hd := decode_high s p hlt (by omega)
        have hdl := decode_le s p
        have hnx : ∀ ty, (Instr.next (.pointer (some ⟨w.heap.size, 0, none⟩)) true ty).run Try.prog (w.iter s p) = _ := fun ty => run_next_any w s p ty hlt
        obtain ⟨x, hx⟩ : ∃ x, x = ((Utf8.decode s p).1 : Int) := ⟨_, rfl⟩
        rw [← hx] at hnx
        obtain ⟨q, hq⟩ : ∃ q, q = (Utf8.decode s p).2 := ⟨_, rfl⟩
        rw [← hq] at hnx
        have hx1 : 128 ≤ x := by omega
        have t57 : decide (x ≤ 57) = false := decide_eq_false (by omega)
        have t90 : decide (x ≤ 90) = false := decide_eq_false (by omega)
        have t122 : decide (x ≤ 122) = false := decide_eq_false (by omega)
        have e95 : (x == 95) = false := by rw [beq_eq_false_iff_ne]; omega
        have e45 : (x == 45) = false := by rw [beq_eq_false_iff_ne]; omega
        have HF : Hid (V = false) := by
          rw [HV.out]
          refine allIn_false hlt ?_
          have h256 := (s[p]'hlt).toNat_lt
          unfold inA; simp; omega
        clear hx hq hd hdl
        go_wp2
        go_ret
        exact ⟨by rw [HF.out]; rfl, (Below.refl _ _).alloc (Nat.le_refl _) _⟩
    · have hnx : ∀ ty, (Instr.next (.pointer (some ⟨w.heap.size, 0, none⟩)) true ty).run Try.prog (w.iter s p) = _ := fun ty => run_next_end w s p ty hlt
      have HF : Hid (V = true) := by rw [HV.out]; exact allIn_true fun j hj => hall.out j hj (by omega)
      go_wp2
      go_ret
      exact ⟨by rw [HF.out]; rfl, (Below.refl _ _).alloc (Nat.le_refl _) _⟩

set_option maxHeartbeats 400000 in
theorem zz17_yes (s : ByteArray) (w : World) (hn : s.size ≤ 1048576) : Calls Try.prog 17 #[.string s] w fun e w' => e = .returned (.bool true) ∧ w' = w := by
  go_enter Try.func17, Try.ntmps17
  go_wp2
  go_ret
  exact ⟨rfl, rfl⟩

set_option maxHeartbeats 1000000 in
theorem walkName (s : ByteArray) (w : World) (hm : s.size ≤ maxLen) : Calls Try.prog 6 #[.string s] w fun e w' => e = .returned (.bool true) ∧ Below w.heap.size w w' := by
  unfold maxLen at hm
  by_cases hn : s.size ≤ 1048576
  rotate_left
  · go_enter Try.func6, Try.ntmps6
    go_wp2
    go_ret
    exact ⟨rfl, Below.refl _ _⟩
  have H := valid_any s w hn
  by_cases h0 : s.size = 0
  · have hv : validB s = false := by simp [validB, h0]
    rw [hv] at H
    clear hv
    have t1 : decide ((1 : Int) ≤ (s.size : Int)) = false := decide_eq_false (by omega)
    clear h0
    go_enter Try.func6, Try.ntmps6
    go_wp2_with (first | (go_at_call 19; refine H.mono ?_; rintro e w1 ⟨rfl, hb1⟩) | (go_at_call 17; go_in))
    go_ret
    exact ⟨rfl, hb1⟩
  by_cases h1 : s.size ≤ 64
  rotate_left
  · have hv : validB s = false := by simp [validB, h1]
    rw [hv] at H
    clear hv
    have t1 : decide ((1 : Int) ≤ (s.size : Int)) = true := decide_eq_true (by omega)
    have t2 : decide ((s.size : Int) ≤ 64) = false := decide_eq_false (by omega)
    clear h0
    go_enter Try.func6, Try.ntmps6
    go_wp2_with (first | (go_at_call 19; refine H.mono ?_; rintro e w1 ⟨rfl, hb1⟩) | (go_at_call 17; go_in))
    go_ret
    exact ⟨rfl, hb1⟩
  obtain ⟨V, hV⟩ : ∃ V, V = validB s := ⟨_, rfl⟩
  have h2 : 1 ≤ s.size := by omega
  have HV : Hid (V = allIn s) := by show V = allIn s; rw [hV]; simp [validB, h1, h2]
  rw [← hV] at H
  have HH : Hid (Calls Try.prog 19 #[.string s] w fun e w' => e = .returned (.bool V) ∧ Below w.heap.size w w') := H
  have t1 : decide ((1 : Int) ≤ (s.size : Int)) = true := decide_eq_true (by omega)
  have t2 : decide ((s.size : Int) ≤ 64) = true := decide_eq_true (by omega)
  have t3 : decide ((1048576 : Int) < (s.size : Int)) = false := decide_eq_false (by omega)
  clear h0 hV H
  go_enter Try.func6, Try.ntmps6
  go_wp2_with (go_at_call 17; refine (zz17_yes s w hn).mono ?_; rintro e w' ⟨rfl, hw⟩; obtain rfl := hw.symm; clear hw)
  go_loop [3, 4] (fun t i => ∃ p : Nat, p ≤ s.size ∧ t = .bool true ∧ i = .int .i64 p ∧ Hid (∀ j (hj : j < s.size), j < p → inA (((s[j]'hj).toNat : Nat) : Int) = true)) (fun _ i => s.size - (intOf i).toNat)
  case atStart => exact ⟨0, Nat.zero_le _, rfl, rfl, fun j _ h => absurd h (Nat.not_lt_zero j)⟩
  case round =>
    obtain ⟨p, hp, rfl, rfl, hall⟩ := hrel
    by_cases hlt : p < s.size
    · have hin := inAlpha_any (s[p]'hlt).toNat w (s[p]'hlt).toNat_lt
      cases hx : inA (((s[p]'hlt).toNat : Nat) : Int) with
      | true =>
        rw [hx] at hin
        have HN : Hid (∀ j (hj : j < s.size), j < p + 1 → inA (((s[j]'hj).toNat : Nat) : Int) = true) := by
          intro j hj hjk
          rcases Nat.lt_or_ge j p with h | h
          · exact hall.out j hj h
          · obtain rfl : j = p := by omega
            exact hx
        clear hx
        go_wp2_with (go_at_call 18; refine hin.mono ?_; rintro e w' ⟨rfl, rfl⟩)
        go_round
        case rel => exact ⟨p + 1, by omega, rfl, by go_num, HN⟩
        case measure => simp [intOf]; omega
      | false =>
        rw [hx] at hin
        have HF : Hid (V = false) := by
          show V = false
          rw [HV.out]
          exact allIn_false hlt hx
        have HK := HH.out
        rw [HF.out] at HK
        clear hx HH
        go_wp2_with (first | (go_at_call 18; refine hin.mono ?_; rintro e w' ⟨rfl, hw⟩; obtain rfl := hw.symm; clear hw) | (go_at_call 19; refine HK.mono ?_; rintro e w1 ⟨rfl, hb1⟩))
        go_ret
        exact ⟨rfl, hb1⟩
    · have HF : Hid (V = true) := by show V = true; rw [HV.out]; exact allIn_true fun j hj => hall.out j hj (by omega)
      have HK := HH.out
      rw [HF.out] at HK
      clear HH
      go_wp2_with (go_at_call 19; refine HK.mono ?_; rintro e w1 ⟨rfl, hb1⟩)
      go_ret
      exact ⟨rfl, hb1⟩
end Go.Proofs.Qxb6603184a
