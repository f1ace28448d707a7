import Derived.Test.Qxb6602604aNest
namespace Go.Proofs.Qxb6602604a
open Go.RowKit

set_option maxHeartbeats 1000000 in
set_option maxRecDepth 10000 in
/-- The ways on which the law asks nothing: too long, or the start lies outside. -/
theorem nest_out (ap : Option Addr) (np cp : Nat) (a0 : Option Addr) (n cap : Nat) (a1 : Int) (w : World) (hmp : np ≤ maxLen) (hm : n ≤ maxLen) (h : 1048576 < np ∨ 1048576 < n ∨ 1048576 < np + n ∨ a1 < 0 ∨ (n : Int) ≤ a1) :
    Calls Try.prog 7 #[.slice ap np cp, .slice a0 n cap, .int .i64 a1] w fun e w' => e = .returned (.bool true) ∧ Below w.heap.size w w' := by
  unfold maxLen at hm hmp
  by_cases hnp : np ≤ 1048576
  rotate_left
  · clear h
    go_enter Try.func7, Try.ntmps7
    go_wp2
    go_ret
    exact ⟨rfl, Below.refl _ _⟩
  by_cases hn1 : n ≤ 1048576
  rotate_left
  · clear h
    go_enter Try.func7, Try.ntmps7
    go_wp2
    go_ret
    exact ⟨rfl, Below.refl _ _⟩
  by_cases hn : np + n ≤ 1048576
  rotate_left
  · clear h
    go_enter Try.func7, Try.ntmps7
    go_wp2
    go_ret
    exact ⟨rfl, Below.refl _ _⟩
  have H := dom_out a0 n cap a1 w (by omega)
  clear h
  go_enter Try.func7, Try.ntmps7
  go_wp2_with (first | (go_at_call 18; refine H.mono ?_; rintro e w' ⟨rfl, hw⟩; obtain rfl := hw.symm; clear hw) | (go_at_call 20; go_in))
  go_ret
  exact ⟨rfl, Below.refl _ _⟩

theorem value_here {d : Nat → Int} {n s m : Nat} (h : Value' d n s (s + m)) (hx : DelimAt d n (s + m) ∨ brk (d s)) : Head d n 0 s (s + m) := by
  have := h.here (d' := d) (n' := n) (a := s) (fun j _ => rfl) (by have := h.hi; omega) (by rw [show s + (s + m - s) = s + m by omega]; exact hx)
  rwa [show s + (s + m - s) = s + m by omega] at this
theorem value_cut {d : Nat → Int} {n s m : Nat} (h : Value' d n s (s + m)) : Head d (s + m) 0 s (s + m) := by
  have := h.here (d' := d) (n' := s + m) (a := s) (fun j _ => rfl) (by omega) (Or.inl (Or.inl (by omega)))
  rwa [show s + (s + m - s) = s + m by omega] at this
theorem value_join {d p : Nat → Int} {n np s m : Nat} (h : Value' d n s (s + m)) (hx : DelimAt d n (s + m) ∨ brk (d s)) : Head (cat np p d) (np + n) 0 (np + s) (np + (s + m)) := by
  have := h.here (d' := cat np p d) (n' := np + n) (a := np + s) (fun j _ => by rw [Nat.add_assoc, cat_hi]) (by have := h.hi; omega) (by
    rcases hx with (hx | hx) | hx
    · exact Or.inl (Or.inl (by omega))
    · exact Or.inl (Or.inr (by rw [show np + s + (s + m - s) = np + (s + m) by omega, cat_hi]; exact hx))
    · exact Or.inr hx)
  rwa [show np + s + (s + m - s) = np + (s + m) by omega] at this

set_option maxHeartbeats 4000000 in
set_option maxRecDepth 10000 in
theorem nest_in (ap : Option Addr) (np cp : Nat) (p : Nat → Int) (b off n cap s : Nat) (d : Nat → Int) (w : World) (hn : np + n ≤ 1048576) (hs : s < n)
    (hzp : ap = none → np = 0 ∧ cp = 0) (hpr : BRow w ap np p) (hc : ∀ i, i < n → w.cell? ⟨b, off + i, none⟩ = some (.int .u8 (d i))) :
    Calls Try.prog 7 #[.slice ap np cp, .slice (some ⟨b, off, none⟩) n cap, .int .i64 s] w fun e w' => e = .returned (.bool true) ∧ Below w.heap.size w w' := by
  have HC : Hid (∀ i, i < n → w.cell? ⟨b, off + i, none⟩ = some (.int .u8 (d i))) := hc
  have HP : Hid (BRow w ap np p) := hpr
  have HZP : Hid (ap = none → np = 0 ∧ cp = 0) := hzp
  have H := dom_in b off n cap s d w (by omega) hs hc
  clear hc hpr hzp
  go_enter Try.func7, Try.ntmps7
  go_wp2_with (go_at_call 20; go_in)
  refine H.mono ?_
  rintro e w1 ⟨he, hb1⟩
  clear H
  rcases he with rfl | ⟨r, rfl, hv, hx⟩
  · go_wp2
    go_ret
    exact ⟨rfl, hb1⟩
  have hlo := hv.lo
  have hhi := hv.hi
  obtain ⟨m, rfl⟩ : ∃ m, r = s + m := ⟨r - s, by omega⟩
  have hm0 : 0 < m := by omega
  have HV : Hid (Value' d n s (s + m)) := hv
  have HX : Hid (DelimAt d n (s + m) ∨ brk (d s)) := hx
  have HB1 : Hid (Below w.heap.size w w1) := hb1
  have HCP : Hid (Calls Try.prog 13 #[.slice ap np cp] w1 fun e w' => ClonedB w1 w' np p e) := clone_any ap np cp p w1 (by omega) HZP.out (HP.out.below hb1 (Nat.le_refl _))
  have HC1 : Hid (∀ i, i < n → w1.cell? ⟨b, off + i, none⟩ = some (.int .u8 (d i))) := below_cells hb1 HC.out
  clear hv hx hb1 HC HP HZP hlo
  go_wp2_with (first
    | (go_at_call 13; refine HCP.out.mono ?_; rintro e w2 hcl; clear HCP; obtain ⟨ap1, rfl, hz1, hp1, hb2⟩ := hcl; have HP2 : Hid (BRow w2 ap1 np p) := hp1; have HZ1 : Hid (ap1 = none → np = 0) := hz1; clear hp1 hz1)
    | (go_at_call 13; refine (clone_row b off n cap d w2 (by omega) (by omega) (below_cells hb2 HC1.out)).mono ?_; rintro e w3 ⟨rfl, hc3, hb3⟩; have HC3 : Hid (∀ i, i < n → w3.cell? ⟨w2.heap.size, 0 + i, none⟩ = some (.int .u8 (d i))) := hc3; clear hc3))
  have HP3 : Hid (BRow w3 ap1 np p) := HP2.out.below hb3 (Nat.le_refl _)
  have HD3 : Hid (BRow w3 (some ⟨w2.heap.size, 0, none⟩) n d) := fun _ => ⟨_, _, rfl, HC3.out⟩
  have HB3 : Hid (Below w.heap.size w w3) := HB1.out.trans ((hb2.trans (hb3.mono hb2.size)).mono HB1.out.size)
  clear hb2 hb3 HP2 HC1 HB1
  refine (zzvalue_at w2.heap.size 0 n n s (s + m) _ ((s : Int) + m) rfl (by omega) d w3 (by omega) (value_here HV.out HX.out) HC3.out).mono ?_
  rintro e w' ⟨rfl, hw⟩
  obtain rfl := hw.symm
  clear hw
  go_wp2_with fail
  refine (zzvalue_at w2.heap.size 0 (s + m) n s (s + m) _ ((s : Int) + m) rfl (by omega) d w3 (by omega) (value_cut HV.out) (fun i hi => HC3.out i (by omega))).mono ?_
  rintro e w' ⟨rfl, hw⟩
  obtain rfl := hw.symm
  clear hw HC3
  go_wp2_with (first
    | (at_make; refine wpl_make0 rfl (.tmp 65) (.const (.int .i64 0)) rfl (np + n) rfl _ rfl (by omega) (by omega) ?_; intro w4 own4 hb4; have HO4 : Hid (∀ d, Own w4 w3.heap.size 0 (np + n) d) := own4; have HB4 : Hid (Below w3.heap.size w3 w4) := hb4; clear own4 hb4)
    | (at_builtin; refine wpl_app rfl (.tmp 67) (.tmp 68) rfl w3.heap.size 0 (np + n) p rfl (HO4.out p) ap1 np np p rfl (fun h => ⟨HZ1.out h, HZ1.out h⟩) (HP3.out.below HB4.out (Nat.le_refl _)) (by omega) ?_; intro w5 own5 hb5; rw [Nat.zero_add, cat_zero] at own5; have HO5 : Hid (Own w5 w3.heap.size np (np + n) p) := own5; have HB5 : Hid (Below w3.heap.size w3 w5) := HB4.out.trans hb5; clear own5 hb5)
    | (at_builtin; refine wpl_app rfl (.tmp 70) (.tmp 71) rfl w3.heap.size np (np + n) p rfl HO5.out (some ⟨w2.heap.size, 0, none⟩) n n d rfl (fun h => by cases h) (HD3.out.below HB5.out (Nat.le_refl _)) (by omega) ?_; intro w6 own6 hb6; have HO6 : Hid (Own w6 w3.heap.size (np + n) (np + n) (cat np p d)) := own6; have HB6 : Hid (Below w3.heap.size w3 w6) := HB5.out.trans hb6; clear own6 hb6))
  refine (zzvalue_at w3.heap.size 0 (np + n) (np + n) (np + s) (np + (s + m)) _ ((np : Int) + ((s : Int) + m)) (by omega) (by omega) (cat np p d) w6 (by omega) (value_join HV.out HX.out) HO6.out.cell).mono ?_
  rintro e w' ⟨rfl, hw⟩
  obtain rfl := hw.symm
  clear hw HO4 HO5 HB4 HB5
  have HW6 : Hid (Below w.heap.size w w6) := HB3.out.trans (HB6.out.mono HB3.out.size)
  have HVR : Hid (BRow w6 (some ⟨w2.heap.size, s, none⟩) m (fun j => d (s + j))) := fun _ => by
    obtain ⟨b, off, e, h⟩ := HD3.out.below HB6.out (Nat.le_refl _) (by omega)
    cases e
    exact ⟨_, _, rfl, fun j hj => by have := h (s + j) (by omega); rw [Nat.zero_add] at this; exact this⟩
  clear HO6 HB6 HB3 HP3 HD3 HX
  go_wp2_with (first
    | (at_make; refine wpl_make0 rfl (.tmp 92) (.const (.int .i64 0)) rfl (2 * m + 3) rfl _ rfl (by omega) (by omega) ?_; intro w7 own7 hb7; have HO7 : Hid (∀ d, Own w7 w6.heap.size 0 (2 * m + 3) d) := own7; have HB7 : Hid (Below w6.heap.size w6 w7) := hb7; clear own7 hb7)
    | (at_builtin; refine wpl_app rfl (.tmp 94) (.tmp 95) rfl w6.heap.size 0 (2 * m + 3) (lit [91]) rfl ((HO7.out _).alloc _) (some ⟨w7.heap.size, 0, none⟩) 1 1 (lit [91]) rfl (fun h => by cases h) (brow_lit1 _ _) (by omega) ?_; intro w8 own8 hb8; rw [Nat.zero_add, cat_zero] at own8; have HO8 : Hid (Own w8 w6.heap.size 1 (2 * m + 3) (lit [91])) := own8; have HB8 : Hid (Below w6.heap.size w6 w8) := (HB7.out.alloc HB7.out.size _).trans hb8; clear own8 hb8)
    | (at_builtin; refine wpl_app rfl (.tmp 97) (.tmp 98) rfl w6.heap.size 1 (2 * m + 3) (lit [91]) rfl HO8.out (some ⟨w2.heap.size, s, none⟩) m _ (fun j => d (s + j)) rfl (fun h => by cases h) (HVR.out.below HB8.out (Nat.le_refl _)) (by omega) ?_; intro w9 own9 hb9; have HO9 : Hid (Own w9 w6.heap.size (1 + m) (2 * m + 3) (cat 1 (lit [91]) (fun j => d (s + j)))) := own9; have HB9 : Hid (Below w6.heap.size w6 w9) := HB8.out.trans hb9; clear own9 hb9)
    | (at_builtin; refine wpl_app rfl (.tmp 100) (.tmp 101) rfl w6.heap.size (1 + m) (2 * m + 3) _ rfl (HO9.out.alloc _) (some ⟨w9.heap.size, 0, none⟩) 1 1 (lit [44]) rfl (fun h => by cases h) (brow_lit1 _ _) (by omega) ?_; intro w10 own10 hb10; have HO10 : Hid (Own w10 w6.heap.size (1 + m + 1) (2 * m + 3) (cat (1 + m) (cat 1 (lit [91]) (fun j => d (s + j))) (lit [44]))) := own10; have HB10 : Hid (Below w6.heap.size w6 w10) := (HB9.out.alloc HB9.out.size _).trans hb10; clear own10 hb10)
    | (at_builtin; refine wpl_app rfl (.tmp 103) (.tmp 104) rfl w6.heap.size (1 + m + 1) (2 * m + 3) _ rfl HO10.out (some ⟨w2.heap.size, s, none⟩) m _ (fun j => d (s + j)) rfl (fun h => by cases h) (HVR.out.below HB10.out (Nat.le_refl _)) (by omega) ?_; intro w11 own11 hb11; have HO11 : Hid (Own w11 w6.heap.size (1 + m + 1 + m) (2 * m + 3) (cat (1 + m + 1) (cat (1 + m) (cat 1 (lit [91]) (fun j => d (s + j))) (lit [44])) (fun j => d (s + j)))) := own11; have HB11 : Hid (Below w6.heap.size w6 w11) := HB10.out.trans hb11; clear own11 hb11)
    | (at_builtin; refine wpl_app rfl (.tmp 106) (.tmp 107) rfl w6.heap.size (1 + m + 1 + m) (2 * m + 3) _ rfl (HO11.out.alloc _) (some ⟨w11.heap.size, 0, none⟩) 1 1 (lit [93]) rfl (fun h => by cases h) (brow_lit1 _ _) (by omega) ?_; intro w12 own12 hb12; have HO12 : Hid (Own w12 w6.heap.size (1 + m + 1 + m + 1) (2 * m + 3) (arrD m (fun j => d (s + j)))) := own12; have HB12 : Hid (Below w6.heap.size w6 w12) := (HB11.out.alloc HB11.out.size _).trans hb12; clear own12 hb12)
    )
  clear HO7 HO8 HO9 HO10 HO11 HB7 HB8 HB9 HB10 HB11
  refine (zzvalue_at w6.heap.size 0 (1 + m + 1 + m + 1) (2 * m + 3) (0) (2 * m + 3) _ (((1 + m + 1 + m + 1 : Nat) : Int)) (by omega) (by omega) (arrD m (fun j => d (s + j))) w12 (by omega) (arrD_ok HV.out).1 HO12.out.cell).mono ?_
  rintro e w' ⟨rfl, hw⟩
  obtain rfl := hw.symm
  clear hw
  go_wp2_with fail
  refine (zzvalue_at w6.heap.size 0 (1 + m + 1 + m + 1) (2 * m + 3) (1) (1 + m) _ (1 + (m : Int)) (by omega) (by omega) (arrD m (fun j => d (s + j))) w12 (by omega) (arrD_ok HV.out).2.1 HO12.out.cell).mono ?_
  rintro e w' ⟨rfl, hw⟩
  obtain rfl := hw.symm
  clear hw
  go_wp2_with fail
  refine (zzvalue_at w6.heap.size 0 (1 + m + 1 + m + 1) (2 * m + 3) (2 + m) (2 + 2 * m) _ (2 + 2 * (m : Int)) (by omega) (by omega) (arrD m (fun j => d (s + j))) w12 (by omega) (arrD_ok HV.out).2.2 HO12.out.cell).mono ?_
  rintro e w' ⟨rfl, hw⟩
  obtain rfl := hw.symm
  clear hw
  have HW12 : Hid (Below w.heap.size w w12) := HW6.out.trans (HB12.out.mono HW6.out.size)
  have HVR2 : Hid (BRow w12 (some ⟨w2.heap.size, s, none⟩) m (fun j => d (s + j))) := HVR.out.below HB12.out (Nat.le_refl _)
  clear HO12 HB12 HW6 HVR
  go_wp2_with (first
    | (at_make; refine wpl_make0 rfl (.tmp 132) (.const (.int .i64 0)) rfl (m + 6) rfl _ rfl (by omega) (by omega) ?_; intro w13 own13 hb13; have HO13 : Hid (∀ d, Own w13 w12.heap.size 0 (m + 6) d) := own13; have HB13 : Hid (Below w12.heap.size w12 w13) := hb13; clear own13 hb13)
    | (at_builtin; refine wpl_app rfl (.tmp 134) (.tmp 135) rfl w12.heap.size 0 (m + 6) (lit [123, 34, 107, 34, 58]) rfl ((HO13.out _).alloc _) (some ⟨w13.heap.size, 0, none⟩) 5 5 (lit [123, 34, 107, 34, 58]) rfl (fun h => by cases h) (brow_lit5 _ _ _ _ _ _) (by omega) ?_; intro w14 own14 hb14; rw [Nat.zero_add, cat_zero] at own14; have HO14 : Hid (Own w14 w12.heap.size 5 (m + 6) (lit [123, 34, 107, 34, 58])) := own14; have HB14 : Hid (Below w12.heap.size w12 w14) := (HB13.out.alloc HB13.out.size _).trans hb14; clear own14 hb14)
    | (at_builtin; refine wpl_app rfl (.tmp 137) (.tmp 138) rfl w12.heap.size 5 (m + 6) _ rfl HO14.out (some ⟨w2.heap.size, s, none⟩) m _ (fun j => d (s + j)) rfl (fun h => by cases h) (HVR2.out.below HB14.out (Nat.le_refl _)) (by omega) ?_; intro w15 own15 hb15; have HO15 : Hid (Own w15 w12.heap.size (5 + m) (m + 6) (cat 5 (lit [123, 34, 107, 34, 58]) (fun j => d (s + j)))) := own15; have HB15 : Hid (Below w12.heap.size w12 w15) := HB14.out.trans hb15; clear own15 hb15)
    | (at_builtin; refine wpl_app rfl (.tmp 140) (.tmp 141) rfl w12.heap.size (5 + m) (m + 6) _ rfl (HO15.out.alloc _) (some ⟨w15.heap.size, 0, none⟩) 1 1 (lit [125]) rfl (fun h => by cases h) (brow_lit1 _ _) (by omega) ?_; intro w16 own16 hb16; have HO16 : Hid (Own w16 w12.heap.size (5 + m + 1) (m + 6) (objD m (fun j => d (s + j)))) := own16; have HB16 : Hid (Below w12.heap.size w12 w16) := (HB15.out.alloc HB15.out.size _).trans hb16; clear own16 hb16))
  clear HO13 HO14 HO15 HB13 HB14 HB15
  refine (zzvalue_at w12.heap.size 0 (5 + m + 1) (m + 6) (0) (m + 6) _ (((5 + m + 1 : Nat) : Int)) (by omega) (by omega) (objD m (fun j => d (s + j))) w16 (by omega) (objD_ok HV.out).1 HO16.out.cell).mono ?_
  rintro e w' ⟨rfl, hw⟩
  obtain rfl := hw.symm
  clear hw
  go_wp2_with fail
  refine (zzvalue_at w12.heap.size 0 (5 + m + 1) (m + 6) (1) (4) _ (4) (by omega) (by omega) (objD m (fun j => d (s + j))) w16 (by omega) (objD_ok HV.out).2.1 HO16.out.cell).mono ?_
  rintro e w' ⟨rfl, hw⟩
  obtain rfl := hw.symm
  clear hw
  go_wp2_with fail
  refine (zzvalue_at w12.heap.size 0 (5 + m + 1) (m + 6) (5) (5 + m) _ (5 + (m : Int)) (by omega) (by omega) (objD m (fun j => d (s + j))) w16 (by omega) (objD_ok HV.out).2.2 HO16.out.cell).mono ?_
  rintro e w' ⟨rfl, hw⟩
  obtain rfl := hw.symm
  clear hw
  go_wp2
  go_ret
  exact ⟨rfl, HW12.out.trans (HB16.out.mono HW12.out.size)⟩

theorem walk5 (ap : Option Addr) (np cp : Nat) (p : Nat → Int) (a0 : Option Addr) (n cap : Nat) (d : Nat → Int) (a1 : Int) (w : World) (hmp : np ≤ maxLen) (hm : n ≤ maxLen) (hzp : ap = none → np = 0 ∧ cp = 0) (hpr : BRow w ap np p) (hrow : BRow w a0 n d) :
    Calls Try.prog 7 #[.slice ap np cp, .slice a0 n cap, .int .i64 a1] w fun e w' => e = .returned (.bool true) ∧ Below w.heap.size w w' := by
  by_cases h : 1048576 < np ∨ 1048576 < n ∨ 1048576 < np + n ∨ a1 < 0 ∨ (n : Int) ≤ a1
  · exact nest_out ap np cp a0 n cap a1 w hmp hm h
  · obtain ⟨s, rfl⟩ := Int.eq_ofNat_of_zero_le (show 0 ≤ a1 by omega)
    have hs : s < n := by omega
    obtain ⟨b, off, rfl, hc⟩ := hrow (by omega)
    exact nest_in ap np cp p b off n cap s d w (by omega) hs hzp hpr hc
end Go.Proofs.Qxb6602604a
