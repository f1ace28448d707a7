import Derived.Test.Qxb6602604aOwn
namespace Go.Proofs.Qxb6602604a
open Go.RowKit

set_option maxHeartbeats 1000000 in
/-- The ways on which the law asks nothing. -/
theorem shift_out (ap : Option Addr) (np cp : Nat) (a0 : Option Addr) (n cap : Nat) (a1 : Int) (w : World) (hmp : np ≤ maxLen) (hm : n ≤ maxLen) (h : 1048576 < np ∨ 1048576 < n ∨ 1048576 < np + n ∨ a1 < 0 ∨ (n : Int) ≤ a1) :
    Calls Try.prog 5 #[.slice ap np cp, .slice a0 n cap, .int .i64 a1] w fun e w' => e = .returned (.bool true) ∧ Below w.heap.size w w' := by
  unfold maxLen at hm hmp
  by_cases hnp : np ≤ 1048576
  rotate_left
  · clear h
    go_enter Try.func5, Try.ntmps5
    go_wp2
    go_ret
    exact ⟨rfl, Below.refl _ _⟩
  by_cases hn1 : n ≤ 1048576
  rotate_left
  · clear h
    go_enter Try.func5, Try.ntmps5
    go_wp2
    go_ret
    exact ⟨rfl, Below.refl _ _⟩
  by_cases hn : np + n ≤ 1048576
  rotate_left
  · clear h
    go_enter Try.func5, Try.ntmps5
    go_wp2
    go_ret
    exact ⟨rfl, Below.refl _ _⟩
  by_cases h0 : a1 < 0
  · clear h
    go_enter Try.func5, Try.ntmps5
    go_wp2
    go_ret
    exact ⟨rfl, Below.refl _ _⟩
  have h1 : (n : Int) ≤ a1 := by omega
  clear h
  go_enter Try.func5, Try.ntmps5
  go_wp2
  go_ret
  exact ⟨rfl, Below.refl _ _⟩

set_option maxHeartbeats 1000000 in
/-- A string that does not close. -/
theorem shift_none (ap : Option Addr) (np cp b off n cap s : Nat) (d : Nat → Int) (w : World) (hn : np + n ≤ 1048576) (hs : s < n) (hee : ee d n s = none)
    (hc : ∀ i, i < n → w.cell? ⟨b, off + i, none⟩ = some (.int .u8 (d i))) :
    Calls Try.prog 5 #[.slice ap np cp, .slice (some ⟨b, off, none⟩) n cap, .int .i64 s] w fun e w' => e = .returned (.bool true) ∧ Below w.heap.size w w' := by
  have h34 : d s = 34 := by
    by_cases h : d s = 34
    · exact h
    · unfold ee at hee; rw [if_neg h] at hee; cases hee
  have hq : qe d (n - (s + 1)) (s + 1) false = none := by unfold ee at hee; rw [if_pos h34] at hee; exact hee
  have HQ := closing_any b off n cap s d w (by omega) hs hc
  have hcs := hc s hs
  rw [hq] at HQ
  simp only [optI] at HQ
  rw [h34] at hcs
  clear hq hc h34 hee
  go_enter Try.func5, Try.ntmps5
  go_wp2_with (first | (go_at_call 12; refine HQ.mono ?_; rintro e w' ⟨rfl, hw⟩; obtain rfl := hw.symm; clear hw) | (go_at_call 16; go_in))
  go_ret
  exact ⟨rfl, Below.refl _ _⟩

theorem ee_cut {d : Nat → Int} {n s r : Nat} (hs : s < n) (h : ee d n s = some r) : ee d r s = some r := by
  have hb := ee_bounds hs h
  have := ee_move (d' := d) (n' := r) (s' := s) hs h (fun _ _ => rfl) (by omega) (Or.inr (Or.inl (by omega)))
  rw [this]; congr 1; omega
theorem ee_join {d p : Nat → Int} {n np s r : Nat} (hs : s < n) (h : ee d n s = some r) : ee (cat np p d) (np + n) (np + s) = some (np + r) := by
  have hb := ee_bounds hs h
  have := ee_move (d' := cat np p d) (n' := np + n) (s' := np + s) hs h (fun j _ => by rw [Nat.add_assoc, cat_hi]) (by omega) (by
    rcases ee_after hs h with h1 | h1 | h1
    · left; exact h1
    · right; left; omega
    · right; right; rw [show np + s + (r - s) = np + r by omega, cat_hi]; exact h1)
  rw [this]; congr 1; omega
theorem ee_tail {d p : Nat → Int} {n np s r : Nat} (hs : s < n) (h : ee d n s = some r) (hx : d s = 34 ∨ np = 0 ∨ dl (p 0) = true) : ee (cat r d p) (r + np) s = some r := by
  have hb := ee_bounds hs h
  have := ee_move (d' := cat r d p) (n' := r + np) (s' := s) hs h (fun j hj => by rw [cat_lo _ _ hj]) (by omega) (by
    rcases hx with h1 | h1 | h1
    · left; exact h1
    · right; left; omega
    · right; right; rw [show s + (r - s) = r + 0 by omega, cat_hi]; exact h1)
  rw [this]; congr 1; omega

set_option maxHeartbeats 2000000 in
theorem shift_quote (ap : Option Addr) (np cp : Nat) (p : Nat → Int) (b off n cap s r : Nat) (d : Nat → Int) (w : World) (hn : np + n ≤ 1048576) (hs : s < n) (hee : ee d n s = some r) (h34 : d s = 34)
    (hzp : ap = none → np = 0 ∧ cp = 0) (hpr : BRow w ap np p) (hc : ∀ i, i < n → w.cell? ⟨b, off + i, none⟩ = some (.int .u8 (d i))) :
    Calls Try.prog 5 #[.slice ap np cp, .slice (some ⟨b, off, none⟩) n cap, .int .i64 s] w fun e w' => e = .returned (.bool true) ∧ Below w.heap.size w w' := by
  obtain ⟨hr1, hr2⟩ := ee_bounds hs hee
  have HE : Hid (ee d n s = some r) := hee
  have HC : Hid (∀ i, i < n → w.cell? ⟨b, off + i, none⟩ = some (.int .u8 (d i))) := hc
  have HQ1 := closing_some b off n cap s r d w (by omega) hs (by unfold ee at hee; rw [if_pos h34] at hee; exact hee) hc
  have HCP : Hid (Calls Try.prog 13 #[.slice ap np cp] w fun e w' => ClonedB w w' np p e) := clone_any ap np cp p w (by omega) hzp hpr
  have H34 : Hid (d s = 34) := h34
  have hcs := hc s hs
  rw [h34] at hcs
  clear hee hzp hpr hc h34
  go_enter Try.func5, Try.ntmps5
  go_wp2_with (first
    | (go_at_call 12; refine HQ1.mono ?_; rintro e w' ⟨rfl, hw⟩; obtain rfl := hw.symm; clear hw)
    | (go_at_call 16; go_in)
    | (go_at_call 13; refine HCP.out.mono ?_; rintro e w1 hcl; clear HCP; obtain ⟨ap1, rfl, hz1, hp1, hb1⟩ := hcl; have HP1 : Hid (BRow w1 ap1 np p) := hp1; have HZ1 : Hid (ap1 = none → np = 0) := hz1; clear hp1 hz1)
    | (go_at_call 13; refine (clone_row b off n cap d w1 (by omega) (by omega) (fun i hi => by rw [hb1.cell (World.block_lt_of_cell? _ _ (HC.out i hi))]; exact HC.out i hi)).mono ?_; rintro e w2 ⟨rfl, hc2, hb2⟩; have hs2 := hc2 s hs; rw [H34.out, Nat.zero_add] at hs2; have HC2 : Hid (∀ i, i < n → w2.cell? ⟨w1.heap.size, 0 + i, none⟩ = some (.int .u8 (d i))) := hc2; clear hc2))
  have HP2 : Hid (BRow w2 ap1 np p) := HP1.out.below hb2 (Nat.le_refl _)
  have HD2 : Hid (BRow w2 (some ⟨w1.heap.size, 0, none⟩) n d) := fun _ => ⟨_, _, rfl, HC2.out⟩
  have HB2 : Hid (Below w.heap.size w w2) := hb1.trans (hb2.mono hb1.size)
  clear hb1 hb2 HP1 HC HQ1 hcs
  refine (zzelem_any w1.heap.size 0 n n s r d w2 (by omega) hs HE.out HC2.out).mono ?_
  rintro e w' ⟨rfl, hw⟩
  obtain rfl := hw.symm
  clear hw
  go_wp2_with fail
  refine (zzelem_any w1.heap.size 0 r n s r d w2 (by omega) hr1 (ee_cut hs HE.out) (fun i hi => HC2.out i (by omega))).mono ?_
  rintro e w' ⟨rfl, hw⟩
  obtain rfl := hw.symm
  clear hw hs2 HC2
  go_wp2_with (first
    | (at_make; refine wpl_make0 rfl (.tmp 83) (.const (.int .i64 0)) rfl (np + n) rfl _ rfl (by omega) (by omega) ?_; intro w3 own3 hb3; have HO3 : Hid (∀ d, Own w3 w2.heap.size 0 (np + n) d) := own3; have HB3 : Hid (Below w2.heap.size w2 w3) := hb3; clear own3 hb3)
    | (at_builtin; refine wpl_app rfl (.tmp 85) (.tmp 86) rfl w2.heap.size 0 (np + n) p rfl (HO3.out p) ap1 np np p rfl (fun h => ⟨HZ1.out h, HZ1.out h⟩) (HP2.out.below HB3.out (Nat.le_refl _)) (by omega) ?_; intro w4 own4 hb4; rw [Nat.zero_add, cat_zero] at own4; have HO4 : Hid (Own w4 w2.heap.size np (np + n) p) := own4; have HB4 : Hid (Below w2.heap.size w2 w4) := HB3.out.trans hb4; clear own4 hb4)
    | (at_builtin; refine wpl_app rfl (.tmp 88) (.tmp 89) rfl w2.heap.size np (np + n) p rfl HO4.out (some ⟨w1.heap.size, 0, none⟩) n n d rfl (fun h => by cases h) (HD2.out.below HB4.out (Nat.le_refl _)) (by omega) ?_; intro w5 own5 hb5; have HO5 : Hid (Own w5 w2.heap.size (np + n) (np + n) (cat np p d)) := own5; have HB5 : Hid (Below w2.heap.size w2 w5) := HB4.out.trans hb5; clear own5 hb5))
  refine (zzelem_at w2.heap.size 0 (np + n) (np + n) (np + s) (np + r) _ ((np : Int) + (r : Int)) (cat np p d) w5 (by omega) (by omega) (by omega) (by omega) (ee_join hs HE.out) HO5.out.cell).mono ?_
  rintro e w' ⟨rfl, hw⟩
  obtain rfl := hw.symm
  clear hw HO3 HO4 HB3 HB4
  have HP5 : Hid (BRow w5 ap1 np p) := HP2.out.below HB5.out (Nat.le_refl _)
  have HD5 : Hid (BRow w5 (some ⟨w1.heap.size, 0, none⟩) r d) := fun h => by
    obtain ⟨b, off, e, h⟩ := HD2.out.below HB5.out (Nat.le_refl _) (by omega)
    exact ⟨b, off, e, fun i hi => h i (by omega)⟩
  have HW5 : Hid (Below w.heap.size w w5) := HB2.out.trans (HB5.out.mono HB2.out.size)
  clear HO5 HB5 HB2 HP2 HD2
  go_wp2_with (first
    | (at_make; refine wpl_make0 rfl (.tmp 117) (.const (.int .i64 0)) rfl (r + np) rfl _ rfl (by omega) (by omega) ?_; intro w6 own6 hb6; have HO6 : Hid (∀ d, Own w6 w5.heap.size 0 (r + np) d) := own6; have HB6 : Hid (Below w5.heap.size w5 w6) := hb6; clear own6 hb6)
    | (at_builtin; refine wpl_app rfl (.tmp 119) (.tmp 122) rfl w5.heap.size 0 (r + np) d rfl (HO6.out d) (some ⟨w1.heap.size, 0, none⟩) r n d rfl (fun h => by cases h) (HD5.out.below HB6.out (Nat.le_refl _)) (by omega) ?_; intro w7 own7 hb7; rw [Nat.zero_add, cat_zero] at own7; have HO7 : Hid (Own w7 w5.heap.size r (r + np) d) := own7; have HB7 : Hid (Below w5.heap.size w5 w7) := HB6.out.trans hb7; clear own7 hb7)
    | (at_builtin; refine wpl_app rfl (.tmp 124) (.tmp 125) rfl w5.heap.size r (r + np) d rfl HO7.out ap1 np np p rfl (fun h => ⟨HZ1.out h, HZ1.out h⟩) (HP5.out.below HB7.out (Nat.le_refl _)) (by omega) ?_; intro w8 own8 hb8; have HO8 : Hid (Own w8 w5.heap.size (r + np) (r + np) (cat r d p)) := own8; have HB8 : Hid (Below w5.heap.size w5 w8) := HB7.out.trans hb8; clear own8 hb8))
  refine (zzelem_any w5.heap.size 0 (r + np) (r + np) s r (cat r d p) w8 (by omega) (by omega) (ee_tail hs HE.out (Or.inl H34.out)) HO8.out.cell).mono ?_
  rintro e w' ⟨rfl, hw⟩
  obtain rfl := hw.symm
  clear hw
  go_wp2
  go_ret
  exact ⟨rfl, HW5.out.trans (HB8.out.mono HW5.out.size)⟩

set_option maxHeartbeats 2000000 in
theorem shift_bare (ap : Option Addr) (np cp : Nat) (p : Nat → Int) (b off n cap s r : Nat) (d : Nat → Int) (w : World) (hn : np + n ≤ 1048576) (hs : s < n) (hee : ee d n s = some r) (h34 : d s ≠ 34)
    (hzp : ap = none → np = 0 ∧ cp = 0) (hpr : BRow w ap np p) (hc : ∀ i, i < n → w.cell? ⟨b, off + i, none⟩ = some (.int .u8 (d i))) :
    Calls Try.prog 5 #[.slice ap np cp, .slice (some ⟨b, off, none⟩) n cap, .int .i64 s] w fun e w' => e = .returned (.bool true) ∧ Below w.heap.size w w' := by
  obtain ⟨hr1, hr2⟩ := ee_bounds hs hee
  have HE : Hid (ee d n s = some r) := hee
  have HC : Hid (∀ i, i < n → w.cell? ⟨b, off + i, none⟩ = some (.int .u8 (d i))) := hc
  have e34 : (d s == 34) = false := by rw [beq_eq_false_iff_ne]; exact h34
  have HCP : Hid (Calls Try.prog 13 #[.slice ap np cp] w fun e w' => ClonedB w w' np p e) := clone_any ap np cp p w (by omega) hzp hpr
  have hcs := hc s hs
  clear hee hzp hpr hc h34
  go_enter Try.func5, Try.ntmps5
  go_wp2_with (first
    | (go_at_call 16; go_in)
    | (go_at_call 13; refine HCP.out.mono ?_; rintro e w1 hcl; clear HCP; obtain ⟨ap1, rfl, hz1, hp1, hb1⟩ := hcl; have HP1 : Hid (BRow w1 ap1 np p) := hp1; have HZ1 : Hid (ap1 = none → np = 0) := hz1; clear hp1 hz1)
    | (go_at_call 13; refine (clone_row b off n cap d w1 (by omega) (by omega) (fun i hi => by rw [hb1.cell (World.block_lt_of_cell? _ _ (HC.out i hi))]; exact HC.out i hi)).mono ?_; rintro e w2 ⟨rfl, hc2, hb2⟩; have hs2 := hc2 s hs; rw [Nat.zero_add] at hs2; have HC2 : Hid (∀ i, i < n → w2.cell? ⟨w1.heap.size, 0 + i, none⟩ = some (.int .u8 (d i))) := hc2; clear hc2))
  have HP2 : Hid (BRow w2 ap1 np p) := HP1.out.below hb2 (Nat.le_refl _)
  have HD2 : Hid (BRow w2 (some ⟨w1.heap.size, 0, none⟩) n d) := fun _ => ⟨_, _, rfl, HC2.out⟩
  have HB2 : Hid (Below w.heap.size w w2) := hb1.trans (hb2.mono hb1.size)
  clear hb1 hb2 HP1 HC hcs
  refine (zzelem_any w1.heap.size 0 n n s r d w2 (by omega) hs HE.out HC2.out).mono ?_
  rintro e w' ⟨rfl, hw⟩
  obtain rfl := hw.symm
  clear hw
  go_wp2_with fail
  refine (zzelem_any w1.heap.size 0 r n s r d w2 (by omega) hr1 (ee_cut hs HE.out) (fun i hi => HC2.out i (by omega))).mono ?_
  rintro e w' ⟨rfl, hw⟩
  obtain rfl := hw.symm
  clear hw hs2 HC2
  go_wp2_with (first
    | (at_make; refine wpl_make0 rfl (.tmp 83) (.const (.int .i64 0)) rfl (np + n) rfl _ rfl (by omega) (by omega) ?_; intro w3 own3 hb3; have HO3 : Hid (∀ d, Own w3 w2.heap.size 0 (np + n) d) := own3; have HB3 : Hid (Below w2.heap.size w2 w3) := hb3; clear own3 hb3)
    | (at_builtin; refine wpl_app rfl (.tmp 85) (.tmp 86) rfl w2.heap.size 0 (np + n) p rfl (HO3.out p) ap1 np np p rfl (fun h => ⟨HZ1.out h, HZ1.out h⟩) (HP2.out.below HB3.out (Nat.le_refl _)) (by omega) ?_; intro w4 own4 hb4; rw [Nat.zero_add, cat_zero] at own4; have HO4 : Hid (Own w4 w2.heap.size np (np + n) p) := own4; have HB4 : Hid (Below w2.heap.size w2 w4) := HB3.out.trans hb4; clear own4 hb4)
    | (at_builtin; refine wpl_app rfl (.tmp 88) (.tmp 89) rfl w2.heap.size np (np + n) p rfl HO4.out (some ⟨w1.heap.size, 0, none⟩) n n d rfl (fun h => by cases h) (HD2.out.below HB4.out (Nat.le_refl _)) (by omega) ?_; intro w5 own5 hb5; have HO5 : Hid (Own w5 w2.heap.size (np + n) (np + n) (cat np p d)) := own5; have HB5 : Hid (Below w2.heap.size w2 w5) := HB4.out.trans hb5; clear own5 hb5))
  refine (zzelem_at w2.heap.size 0 (np + n) (np + n) (np + s) (np + r) _ ((np : Int) + (r : Int)) (cat np p d) w5 (by omega) (by omega) (by omega) (by omega) (ee_join hs HE.out) HO5.out.cell).mono ?_
  rintro e w' ⟨rfl, hw⟩
  obtain rfl := hw.symm
  clear hw HO3 HO4 HB3 HB4
  have HP5 : Hid (BRow w5 ap1 np p) := HP2.out.below HB5.out (Nat.le_refl _)
  have HD5 : Hid (BRow w5 (some ⟨w1.heap.size, 0, none⟩) r d) := fun h => by
    obtain ⟨b, off, e, h⟩ := HD2.out.below HB5.out (Nat.le_refl _) (by omega)
    exact ⟨b, off, e, fun i hi => h i (by omega)⟩
  have HW5 : Hid (Below w.heap.size w w5) := HB2.out.trans (HB5.out.mono HB2.out.size)
  clear HO5 HB5 HB2 HP2 HD2
  by_cases hp0 : np = 0
  · have t0 : ((np : Int) == 0) = true := by rw [beq_iff_eq]; omega
    have HP0 : Hid (np = 0) := hp0
    clear hp0
    go_wp2_with (first
      | (at_make; refine wpl_make0 rfl (.tmp 117) (.const (.int .i64 0)) rfl (r + np) rfl _ rfl (by omega) (by omega) ?_; intro w6 own6 hb6; have HO6 : Hid (∀ d, Own w6 w5.heap.size 0 (r + np) d) := own6; have HB6 : Hid (Below w5.heap.size w5 w6) := hb6; clear own6 hb6)
      | (at_builtin; refine wpl_app rfl (.tmp 119) (.tmp 122) rfl w5.heap.size 0 (r + np) d rfl (HO6.out d) (some ⟨w1.heap.size, 0, none⟩) r n d rfl (fun h => by cases h) (HD5.out.below HB6.out (Nat.le_refl _)) (by omega) ?_; intro w7 own7 hb7; rw [Nat.zero_add, cat_zero] at own7; have HO7 : Hid (Own w7 w5.heap.size r (r + np) d) := own7; have HB7 : Hid (Below w5.heap.size w5 w7) := HB6.out.trans hb7; clear own7 hb7)
      | (at_builtin; refine wpl_app rfl (.tmp 124) (.tmp 125) rfl w5.heap.size r (r + np) d rfl HO7.out ap1 np np p rfl (fun h => ⟨HZ1.out h, HZ1.out h⟩) (HP5.out.below HB7.out (Nat.le_refl _)) (by omega) ?_; intro w8 own8 hb8; have HO8 : Hid (Own w8 w5.heap.size (r + np) (r + np) (cat r d p)) := own8; have HB8 : Hid (Below w5.heap.size w5 w8) := HB7.out.trans hb8; clear own8 hb8))
    refine (zzelem_any w5.heap.size 0 (r + np) (r + np) s r (cat r d p) w8 (by omega) (by omega) (ee_tail hs HE.out (Or.inr (Or.inl HP0.out))) HO8.out.cell).mono ?_
    rintro e w' ⟨rfl, hw⟩
    obtain rfl := hw.symm
    clear hw
    go_wp2
    go_ret
    exact ⟨rfl, HW5.out.trans (HB8.out.mono HW5.out.size)⟩
  · have t0 : ((np : Int) == 0) = false := by rw [beq_eq_false_iff_ne]; omega
    have hnp : 0 < np := by omega
    obtain ⟨bp, op, hap, hcp⟩ := HP5.out hnp
    have hcp0 := hcp 0 hnp
    rw [Nat.add_zero] at hcp0
    clear hcp hp0
    subst hap
    have hdk := isDelim_any (p 0) w5
    cases hdl : dl (p 0) with
    | true =>
      rw [hdl] at hdk
      have HDL : Hid (dl (p 0) = true) := hdl
      clear hdl
      go_wp2_with (first
        | (at_make; refine wpl_make0 rfl (.tmp 117) (.const (.int .i64 0)) rfl (r + np) rfl _ rfl (by omega) (by omega) ?_; intro w6 own6 hb6; have HO6 : Hid (∀ d, Own w6 w5.heap.size 0 (r + np) d) := own6; have HB6 : Hid (Below w5.heap.size w5 w6) := hb6; clear own6 hb6)
        | (at_builtin; refine wpl_app rfl (.tmp 119) (.tmp 122) rfl w5.heap.size 0 (r + np) d rfl (HO6.out d) (some ⟨w1.heap.size, 0, none⟩) r n d rfl (fun h => by cases h) (HD5.out.below HB6.out (Nat.le_refl _)) (by omega) ?_; intro w7 own7 hb7; rw [Nat.zero_add, cat_zero] at own7; have HO7 : Hid (Own w7 w5.heap.size r (r + np) d) := own7; have HB7 : Hid (Below w5.heap.size w5 w7) := HB6.out.trans hb7; clear own7 hb7)
        | (at_builtin; refine wpl_app rfl (.tmp 124) (.tmp 125) rfl w5.heap.size r (r + np) d rfl HO7.out (some ⟨bp, op, none⟩) np np p rfl (fun h => ⟨HZ1.out h, HZ1.out h⟩) (HP5.out.below HB7.out (Nat.le_refl _)) (by omega) ?_; intro w8 own8 hb8; have HO8 : Hid (Own w8 w5.heap.size (r + np) (r + np) (cat r d p)) := own8; have HB8 : Hid (Below w5.heap.size w5 w8) := HB7.out.trans hb8; clear own8 hb8)
        | (go_at_call 15; refine hdk.mono ?_; rintro e w' ⟨rfl, hw⟩; obtain rfl := hw.symm; clear hw))
      refine (zzelem_any w5.heap.size 0 (r + np) (r + np) s r (cat r d p) w8 (by omega) (by omega) (ee_tail hs HE.out (Or.inr (Or.inr HDL.out))) HO8.out.cell).mono ?_
      rintro e w' ⟨rfl, hw⟩
      obtain rfl := hw.symm
      clear hw
      go_wp2
      go_ret
      exact ⟨rfl, HW5.out.trans (HB8.out.mono HW5.out.size)⟩
    | false =>
      rw [hdl] at hdk
      clear hdl
      go_wp2_with (go_at_call 15; refine hdk.mono ?_; rintro e w' ⟨rfl, hw⟩; obtain rfl := hw.symm; clear hw)
      go_ret
      exact ⟨rfl, HW5.out⟩

theorem walk3 (ap : Option Addr) (np cp : Nat) (p : Nat → Int) (a0 : Option Addr) (n cap : Nat) (d : Nat → Int) (a1 : Int) (w : World) (hmp : np ≤ maxLen) (hm : n ≤ maxLen) (hzp : ap = none → np = 0 ∧ cp = 0) (hpr : BRow w ap np p) (hrow : BRow w a0 n d) :
    Calls Try.prog 5 #[.slice ap np cp, .slice a0 n cap, .int .i64 a1] w fun e w' => e = .returned (.bool true) ∧ Below w.heap.size w w' := by
  by_cases h : 1048576 < np ∨ 1048576 < n ∨ 1048576 < np + n ∨ a1 < 0 ∨ (n : Int) ≤ a1
  · exact shift_out ap np cp a0 n cap a1 w hmp hm h
  · obtain ⟨s, rfl⟩ := Int.eq_ofNat_of_zero_le (show 0 ≤ a1 by omega)
    have hs : s < n := by omega
    obtain ⟨b, off, rfl, hc⟩ := hrow (by omega)
    cases hee : ee d n s with
    | none => exact shift_none ap np cp b off n cap s d w (by omega) hs hee hc
    | some r =>
      by_cases h34 : d s = 34
      · exact shift_quote ap np cp p b off n cap s r d w (by omega) hs hee h34 hzp hpr hc
      · exact shift_bare ap np cp p b off n cap s r d w (by omega) hs hee h34 hzp hpr hc
end Go.Proofs.Qxb6602604a
