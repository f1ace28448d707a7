import Derived.Test.Qxb6603184aFld
namespace Go.Proofs.Qxb6603184a
open Go.RowKit

set_option maxHeartbeats 2000000 in
theorem split_any (s : ByteArray) (B : Nat) (u : Go.Value) (ys : List ByteArray) (w : World) (hn : s.size ≤ 1048576) (hy : ys.length ≤ 1048576) (hB : B ≤ w.heap.size) (hu : SO B w u ys) :
    Calls Try.prog 23 #[.string s, u] w fun e w' => ∃ v, e = .returned v ∧ Sp B w u ys w' v (ys ++ fields s) := by
  have HU : Hid (SO B w u ys) := hu
  clear hu
  go_enter Try.func23, Try.ntmps23
  go_wp2
  go_loopw [1, 5] (fun v i wr => ∃ (p : Nat) (xs : List ByteArray), p ≤ s.size ∧ i = .int .i64 (p : Int) ∧ xs.length ≤ ys.length + p ∧ Hid (Sp B w u ys wr v xs) ∧ Hid (xs ++ fl s (s.size - p) p none = ys ++ fields s)) (fun _ i _ => s.size - (intOf i).toNat)
  case atStart => exact ⟨0, ys, Nat.zero_le _, rfl, by omega, Sp.start HU.out, rfl⟩
  case round =>
    obtain ⟨p, xs, hp, rfl, hxl, hsp, hfl⟩ := hrel
    have hsz := hsp.out.grown.size
    clear HU
    by_cases hlt : p < s.size
    · cases hb : spB s p with
      | true =>
        have h2 := spB_yes hlt hb
        have HN : Hid (xs ++ fl s (s.size - (p + 1)) (p + 1) none = ys ++ fields s) := by have := hfl.out; rw [fl_skip hlt hb] at this; exact this
        clear hb hfl
        rcases h2 with h2 | h2
        · have e1 : ((((s[p]'hlt).toNat : Nat) : Int) == 32) = true := by rw [beq_iff_eq]; exact h2
          have n1 : ((((s[p]'hlt).toNat : Nat) : Int) != 32) = false := by simp [bne, e1]
          clear h2
          go_wp2
          go_roundw
          case rel => exact ⟨p + 1, xs, by omega, by go_num, by omega, hsp, HN⟩
          case measure => simp [intOf]; omega
        · have e1 : ((((s[p]'hlt).toNat : Nat) : Int) == 32) = false := by rw [beq_eq_false_iff_ne]; omega
          have e2 : ((((s[p]'hlt).toNat : Nat) : Int) == 9) = true := by rw [beq_iff_eq]; exact h2
          have n1 : ((((s[p]'hlt).toNat : Nat) : Int) != 32) = true := by simp [bne, e1]
          have n2 : ((((s[p]'hlt).toNat : Nat) : Int) != 9) = false := by simp [bne, e2]
          clear h2
          go_wp2
          go_roundw
          case rel => exact ⟨p + 1, xs, by omega, by go_num, by omega, hsp, HN⟩
          case measure => simp [intOf]; omega
      | false =>
        obtain ⟨e1, e2⟩ := spB_no hlt hb
        have HI : Hid (xs ++ fl s (s.size - (p + 1)) (p + 1) (some p) = ys ++ fields s) := by have := hfl.out; rw [fl_open hlt hb] at this; exact this
        have n1 : ((((s[p]'hlt).toNat : Nat) : Int) != 32) = true := by simp [bne, e1]
        have n2 : ((((s[p]'hlt).toNat : Nat) : Int) != 9) = true := by simp [bne, e2]
        have HB0 : Hid (spB s p = false) := hb
        clear hb hfl
        go_wp2
        go_loop [5] (fun i => ∃ q : Nat, p ≤ q ∧ q ≤ s.size ∧ i = .int .i64 (q : Int) ∧ (p < q → Hid (xs ++ fl s (s.size - q) q (some p) = ys ++ fields s))) (fun i => s.size - (intOf i).toNat)
        case atStart => exact ⟨p, Nat.le_refl _, hp, rfl, fun h => absurd h (Nat.lt_irrefl _)⟩
        case round =>
          obtain ⟨q, hpq, hq, rfl, hin⟩ := hrel
          have HIN : Hid (p < q → Hid (xs ++ fl s (s.size - q) q (some p) = ys ++ fields s)) := hin
          clear hin
          by_cases hqp : q = p
          · subst hqp
            go_wp2
            go_round
            case rel => exact ⟨q + 1, by omega, by omega, by go_num, fun _ => HI⟩
            case measure => simp [intOf]; omega
          have hpq' : p < q := by omega
          have hfq := HIN.out hpq'
          clear HIN hqp hpq HI HB0
          by_cases hqn : q < s.size
          · cases hb : spB s q with
            | true =>
              have h2 := spB_yes hqn hb
              have HN : Hid ((xs ++ [s.extract p q]) ++ fl s (s.size - q) q none = ys ++ fields s) := by
                have := hfq.out; rw [fl_close hqn hb] at this
                show _ = _
                rw [List.append_assoc, fl_skip hqn hb]; exact this
              clear hb hfq
              rcases h2 with h2 | h2
              · have e1 : ((((s[q]'hqn).toNat : Nat) : Int) == 32) = true := by rw [beq_iff_eq]; exact h2
                have n1 : ((((s[q]'hqn).toNat : Nat) : Int) != 32) = false := by simp [bne, e1]
                clear h2
                go_wp2_with (at_builtin; refine wpl_split (w0 := w) rfl (.tmp 42) (.tmp 47) rfl B u _ ys xs rfl (hsp.out.alloc _) (s.extract p q) ⟨wr.heap.size, 0, none⟩ rfl (by simp) (by omega) (by simp; omega) ?_; intro g cp w1 hsp1)
                go_roundw
                case rel => exact ⟨q, xs ++ [s.extract p q], by omega, by go_num, by simp; omega, hsp1, HN⟩
                case measure => simp [intOf]; omega
              · have e1 : ((((s[q]'hqn).toNat : Nat) : Int) == 32) = false := by rw [beq_eq_false_iff_ne]; omega
                have e2 : ((((s[q]'hqn).toNat : Nat) : Int) == 9) = true := by rw [beq_iff_eq]; exact h2
                have n1 : ((((s[q]'hqn).toNat : Nat) : Int) != 32) = true := by simp [bne, e1]
                have n2 : ((((s[q]'hqn).toNat : Nat) : Int) != 9) = false := by simp [bne, e2]
                clear h2
                go_wp2_with (at_builtin; refine wpl_split (w0 := w) rfl (.tmp 42) (.tmp 47) rfl B u _ ys xs rfl (hsp.out.alloc _) (s.extract p q) ⟨wr.heap.size, 0, none⟩ rfl (by simp) (by omega) (by simp; omega) ?_; intro g cp w1 hsp1)
                go_roundw
                case rel => exact ⟨q, xs ++ [s.extract p q], by omega, by go_num, by simp; omega, hsp1, HN⟩
                case measure => simp [intOf]; omega
            | false =>
              obtain ⟨f1, f2⟩ := spB_no hqn hb
              have m1 : ((((s[q]'hqn).toNat : Nat) : Int) != 32) = true := by simp [bne, f1]
              have m2 : ((((s[q]'hqn).toNat : Nat) : Int) != 9) = true := by simp [bne, f2]
              have HN : Hid (xs ++ fl s (s.size - (q + 1)) (q + 1) (some p) = ys ++ fields s) := by have := hfq.out; rw [fl_go hqn hb] at this; exact this
              clear hb hfq
              go_wp2
              go_round
              case rel => exact ⟨q + 1, by omega, by omega, by go_num, fun _ => HN⟩
              case measure => simp [intOf]; omega
          · obtain rfl : q = s.size := by omega
            have HN : Hid ((xs ++ [s.extract p s.size]) ++ fl s (s.size - s.size) s.size none = ys ++ fields s) := by
              have := hfq.out; rw [fl_last] at this
              show _ = _
              rw [fl_end, List.append_nil]; exact this
            have t1 : decide ((s.size : Int) < (s.size : Int)) = false := decide_eq_false (by omega)
            clear hfq
            go_wp2_with (at_builtin; refine wpl_split (w0 := w) rfl (.tmp 42) (.tmp 47) rfl B u _ ys xs rfl (hsp.out.alloc _) (s.extract p s.size) ⟨wr.heap.size, 0, none⟩ rfl (by simp) (by omega) (by simp; omega) ?_; intro g cp w1 hsp1)
            go_roundw
            case rel => exact ⟨s.size, xs ++ [s.extract p s.size], by omega, by go_num, by simp; omega, hsp1, HN⟩
            case measure => simp [intOf]; omega
    · obtain rfl : p = s.size := by omega
      have HN : Hid (xs = ys ++ fields s) := by have := hfl.out; rw [fl_end, List.append_nil] at this; exact this
      clear hfl
      go_wp2
      go_ret
      exact ⟨_, rfl, by rw [← HN.out]; exact hsp.out⟩
end Go.Proofs.Qxb6603184a
