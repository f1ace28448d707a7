import Derived.Test.Qxb6602604aJend
namespace Go.Proofs.Qxb6602604a
open Go.RowKit

/-- What valueEndDomain answers: -1, or where a value ends, followed as valueEnd wants it. -/
def VD (d : Nat → Int) (n s : Nat) (e : Ending) : Prop := e = .returned (.int .i64 (-1)) ∨ ∃ r : Nat, e = .returned (.int .i64 (r : Int)) ∧ Value' d n s r ∧ (DelimAt d n r ∨ brk (d s))

set_option maxHeartbeats 1000000 in
theorem dom_out (a : Option Addr) (n cap : Nat) (S : Int) (w : World) (hS : S < 0 ∨ (n : Int) ≤ S) :
    Calls Try.prog 18 #[.slice a n cap, .int .i64 S] w fun e w' => e = .returned (.int .i64 (-1)) ∧ w' = w := by
  by_cases h0 : S < 0
  · clear hS
    go_enter Try.func18, Try.ntmps18
    go_wp2
    go_ret
    exact ⟨rfl, rfl⟩
  · have h1 : (n : Int) ≤ S := by omega
    clear hS
    go_enter Try.func18, Try.ntmps18
    go_wp2
    go_ret
    exact ⟨rfl, rfl⟩

set_option maxHeartbeats 1000000 in
theorem dom_in (b off n cap s : Nat) (d : Nat → Int) (w : World) (hn : n ≤ 4194304) (hs : s < n) (hc : ∀ i, i < n → w.cell? ⟨b, off + i, none⟩ = some (.int .u8 (d i))) :
    Calls Try.prog 18 #[.slice (some ⟨b, off, none⟩) n cap, .int .i64 s] w fun e w' => VD d n s e ∧ Below w.heap.size w w' := by
  have HC : Hid (∀ i, i < n → w.cell? ⟨b, off + i, none⟩ = some (.int .u8 (d i))) := hc
  clear hc
  go_enter Try.func18, Try.ntmps18
  go_wp2_with fail
  refine (jsonEnd_any b off n cap s d w hn hs HC.out).mono ?_
  rintro e w1 ⟨he, hb1⟩
  rcases he with rfl | ⟨r, rfl, hv⟩
  · go_wp2
    go_ret
    exact ⟨Or.inl rfl, hb1⟩
  have HV : Hid (Value' d n s r) := hv
  have hr1 := hv.lo
  have hr2 := hv.hi
  have HC1 : Hid (∀ i, i < n → w1.cell? ⟨b, off + i, none⟩ = some (.int .u8 (d i))) := below_cells hb1 HC.out
  have HB1 : Hid (Below w.heap.size w w1) := hb1
  have hcs := HC1.out s hs
  clear hv hb1 HC
  by_cases h91 : d s = 91
  · have HB : Hid (brk (d s)) := Or.inl h91
    rw [h91] at hcs
    clear h91
    go_wp2
    go_ret
    exact ⟨Or.inr ⟨r, rfl, HV.out, Or.inr HB.out⟩, HB1.out⟩
  by_cases h123 : d s = 123
  · have HB : Hid (brk (d s)) := Or.inr (Or.inl h123)
    rw [h123] at hcs
    clear h91 h123
    go_wp2
    go_ret
    exact ⟨Or.inr ⟨r, rfl, HV.out, Or.inr HB.out⟩, HB1.out⟩
  by_cases h34 : d s = 34
  · have HB : Hid (brk (d s)) := Or.inr (Or.inr h34)
    rw [h34] at hcs
    clear h91 h123 h34
    go_wp2
    go_ret
    exact ⟨Or.inr ⟨r, rfl, HV.out, Or.inr HB.out⟩, HB1.out⟩
  have e91 : (d s == 91) = false := by rw [beq_eq_false_iff_ne]; exact h91
  have e123 : (d s == 123) = false := by rw [beq_eq_false_iff_ne]; exact h123
  have e34 : (d s == 34) = false := by rw [beq_eq_false_iff_ne]; exact h34
  clear h91 h123 h34
  by_cases hrn : r = n
  · have HRN : Hid (r = n) := hrn
    have ern : ((r : Int) == (n : Int)) = true := by rw [beq_iff_eq]; omega
    clear hrn
    go_wp2
    go_ret
    exact ⟨Or.inr ⟨r, rfl, HV.out, Or.inl (Or.inl HRN.out)⟩, HB1.out⟩
  · have ern : ((r : Int) == (n : Int)) = false := by rw [beq_eq_false_iff_ne]; omega
    have hrlt : r < n := by omega
    have hcr := HC1.out r hrlt
    have hdk := isDelim_any (d r) w1
    cases hdl : dl (d r) with
    | true =>
      rw [hdl] at hdk
      have HDL : Hid (dl (d r) = true) := hdl
      clear hdl hrn
      go_wp2_with (go_at_call 15; refine hdk.mono ?_; rintro e w' ⟨rfl, hw⟩; obtain rfl := hw.symm; clear hw)
      go_ret
      exact ⟨Or.inr ⟨r, rfl, HV.out, Or.inl (Or.inr HDL.out)⟩, HB1.out⟩
    | false =>
      rw [hdl] at hdk
      clear hdl hrn
      go_wp2_with (go_at_call 15; refine hdk.mono ?_; rintro e w' ⟨rfl, hw⟩; obtain rfl := hw.symm; clear hw)
      go_ret
      exact ⟨Or.inl rfl, HB1.out⟩

set_option maxHeartbeats 400000 in
theorem zzvalue_at (b off n cap s e : Nat) (S E : Int) (hS : S = (s : Int)) (hE : E = (e : Int)) (d : Nat → Int) (w : World) (hn : n ≤ 16777216) (hh : Head d n 0 s e) (hc : ∀ i, i < n → w.cell? ⟨b, off + i, none⟩ = some (.int .u8 (d i))) :
    Calls Try.prog 19 #[.slice (some ⟨b, off, none⟩) n cap, .int .i64 S] w fun x w' => x = .returned (.int .i64 E) ∧ w' = w := by
  subst hS; subst hE
  have H := valueEnd_any b off n cap s e d w hn hh hc
  clear hc hh
  go_enter Try.func19, Try.ntmps19
  go_wp2_with (go_at_call 24; refine H.mono ?_; rintro x w' ⟨rfl, rfl⟩)
  go_ret
  exact ⟨rfl, rfl⟩

set_option maxHeartbeats 1000000 in
theorem walk4 (a0 : Option Addr) (n cap : Nat) (d : Nat → Int) (a1 : Int) (w : World) (hm : n ≤ maxLen) (hrow : BRow w a0 n d) :
    Calls Try.prog 6 #[.slice a0 n cap, .int .i64 a1] w fun e w' => e = .returned (.bool true) ∧ Below w.heap.size w w' := by
  have HR : Hid (BRow w a0 n d) := hrow
  clear hrow
  unfold maxLen at hm
  by_cases hn : n ≤ 1048576
  rotate_left
  · go_enter Try.func6, Try.ntmps6
    go_wp2
    go_ret
    exact ⟨rfl, Below.refl _ _⟩
  by_cases h0 : a1 < 0 ∨ (n : Int) ≤ a1
  · have H := dom_out a0 n cap a1 w h0
    clear h0
    go_enter Try.func6, Try.ntmps6
    go_wp2_with (first | (go_at_call 18; refine H.mono ?_; rintro e w' ⟨rfl, hw⟩; obtain rfl := hw.symm; clear hw) | (go_at_call 17; go_in))
    go_ret
    exact ⟨rfl, Below.refl _ _⟩
  obtain ⟨s, rfl⟩ := Int.eq_ofNat_of_zero_le (show 0 ≤ a1 by omega)
  have hs : s < n := by omega
  obtain ⟨b, off, rfl, hc⟩ := HR.out (by omega)
  have HC : Hid (∀ i, i < n → w.cell? ⟨b, off + i, none⟩ = some (.int .u8 (d i))) := hc
  have H := dom_in b off n cap s d w (by omega) hs hc
  clear hc HR h0
  go_enter Try.func6, Try.ntmps6
  go_wp2_with (go_at_call 17; go_in)
  refine H.mono ?_
  rintro e w1 ⟨he, hb1⟩
  clear H
  rcases he with rfl | ⟨r, rfl, hv, hx⟩
  · go_wp2
    go_ret
    exact ⟨rfl, hb1⟩
  have hh : Head d n 0 s r := by
    have hlo := hv.lo
    have hhi := hv.hi
    have := hv.here (d' := d) (n' := n) (a := s) (fun j _ => rfl) (by omega) (by rw [show s + (r - s) = r by omega]; exact hx)
    rwa [show s + (r - s) = r by omega] at this
  have HH : Hid (Head d n 0 s r) := hh
  have HB1 : Hid (Below w.heap.size w w1) := hb1
  have HCL : Hid (Calls Try.prog 13 #[.slice (some ⟨b, off, none⟩) n cap] w1 fun e w' => e = .returned (.slice (some ⟨w1.heap.size, 0, none⟩) n n) ∧
      (∀ i, i < n → w'.cell? ⟨w1.heap.size, 0 + i, none⟩ = some (.int .u8 (d i))) ∧ Below w1.heap.size w1 w') := clone_row b off n cap d w1 (by omega) (by omega) (below_cells hb1 HC.out)
  clear hv hx hh hb1 HC
  go_wp2_with (go_at_call 13; refine HCL.out.mono ?_; rintro e w2 ⟨rfl, hc2, hb2⟩; clear HCL; have HC2 : Hid (∀ i, i < n → w2.cell? ⟨w1.heap.size, 0 + i, none⟩ = some (.int .u8 (d i))) := hc2; clear hc2)
  refine (zzvalue_at w1.heap.size 0 n n s r _ (r : Int) rfl rfl d w2 (by omega) HH.out HC2.out).mono ?_
  rintro e w' ⟨rfl, hw⟩
  obtain rfl := hw.symm
  clear hw
  go_wp2
  go_ret
  exact ⟨rfl, HB1.out.trans (hb2.mono HB1.out.size)⟩
end Go.Proofs.Qxb6602604a
