import Derived.Test.Qxb6602604aLenB
import Derived.Deep.QuietTactic
import Derived.BigQuiet
namespace Go.Proofs.Qxb6602604a
open Go.RowKit

theorem PRow.below {w w' : World} {ao : Option Addr} {n : Nat} {A : Nat → Option Addr} {L C : Nat → Nat} (h : PRow w ao n A L C) (hb : Below w.heap.size w w') : PRow w' ao n A L C := by
  intro h0
  obtain ⟨b, off, rfl, hc⟩ := h h0
  exact ⟨b, off, rfl, fun r hr => by rw [hb.cell (World.block_lt_of_cell? _ _ (hc r hr))]; exact hc r hr⟩

/-- What clonePieces leaves. -/
def Cloned (w w' : World) (n : Nat) (L : Nat → Nat) (e : Ending) : Prop :=
  ∃ (ao : Option Addr) (A : Nat → Option Addr) (C : Nat → Nat), e = .returned (.slice ao n n) ∧ PRow w' ao n A L C ∧ Src w' n A L ∧ Below w.heap.size w w'

theorem clonePieces_any (ao : Option Addr) (n cap : Nat) (A : Nat → Option Addr) (L C : Nat → Nat) (w : World) (hn : n ≤ 65536) (hL : ∀ r, r < n → L r ≤ 1048576) (hao : ao = none → n = 0 ∧ cap = 0) (hrow : PRow w ao n A L C)
    (hsrc : Src w n A L) (hnil : ∀ r, r < n → A r = none → L r = 0 ∧ C r = 0) :
    Calls Try.prog 9 #[.slice ao n cap] w fun e w' => Cloned w w' n L e := by
  cases ao with
  | none =>
    obtain ⟨rfl, rfl⟩ := hao rfl
    refine (clonePieces_nil w).mono ?_
    rintro e w' ⟨rfl, rfl⟩
    exact ⟨none, A, C, rfl, hrow, hsrc, Below.refl _ _⟩
  | some a =>
    have hlt : 0 < n → a.block < w.heap.size := fun h0 => by
      obtain ⟨b, off, hab, hc⟩ := hrow h0
      cases hab
      exact World.block_lt_of_cell? _ _ (hc 0 h0)
    refine (clonePieces_some a n cap A L C w hn hL hrow hlt hsrc hnil).mono ?_
    rintro e w' ⟨rfl, A', C', hcl⟩
    exact ⟨_, A', C', rfl, hcl.done, hcl.src, hcl.below⟩

/-- The buffer: a row of the call's own. -/
def Buf (w : World) (g N : Nat) : Prop := ∃ cur : List Value, w.heap[g]? = some (.cells cur.toArray 5 (0, 0)) ∧ cur.length = N

theorem src_read {w1 wr : World} {a : Option Addr} {l : Nat} (hb : Below w1.heap.size w1 wr)
    (h : 0 < l → ∃ x, a = some x ∧ x.block < w1.heap.size ∧ ∃ d : Nat → Int, ∀ c, c < l → w1.cell? (x.add c) = some (.int .u8 (d c))) :
    ∃ d : Nat → Int, 0 < (byteCells l d).length → ∃ ad, a = some ad ∧ ∀ j v, (byteCells l d)[j]? = some v → wr.cell? (ad.add j) = some v := by
  by_cases h0 : 0 < l
  · obtain ⟨x, rfl, hx, d, hd⟩ := h h0
    exact ⟨d, fun _ => ⟨x, rfl, fun j v hv => by obtain ⟨hj, rfl⟩ := byteCells_get hv; rw [hb.cell (by rw [add_block]; exact hx)]; exact hd j hj⟩⟩
  · exact ⟨fun _ => 0, fun h => absurd (by simpa [length_byteCells] using h) h0⟩

theorem one_piece (b off cap : Nat) (a : Option Addr) (l c : Nat) (w : World) (hl : l ≤ 1048576) (hc : w.cell? ⟨b, off, none⟩ = some (.slice a l c)) :
    Calls Try.prog 10 #[.slice (some ⟨b, off, none⟩) 1 cap] w fun e w' => e = .returned (.int .i64 (l : Int)) ∧ w' = w := by
  have := zzlength_any (some ⟨b, off, none⟩) 1 cap (fun _ => a) (fun _ => l) (fun _ => c) w (by omega) (by simp [sumTo]; exact hl) (fun _ => ⟨b, off, rfl, fun r hr => by rw [show r = 0 by omega]; exact hc⟩)
  refine this.mono ?_
  rintro e w' ⟨rfl, rfl⟩
  exact ⟨by simp [sumTo], rfl⟩

theorem no_piece (a : Option Addr) (cap : Nat) (w : World) :
    Calls Try.prog 10 #[.slice a 0 cap] w fun e w' => e = .returned (.int .i64 0) ∧ w' = w := by
  have := zzlength_any a 0 cap (fun _ => none) (fun _ => 0) (fun _ => 0) w (by omega) (by simp [sumTo]) (fun h => by omega)
  refine this.mono ?_
  rintro e w' ⟨rfl, rfl⟩
  exact ⟨rfl, rfl⟩

set_option maxHeartbeats 2000000 in
theorem walk1 (ao : Option Addr) (n cap : Nat) (A : Nat → Option Addr) (L C : Nat → Nat) (k0 : Int) (w : World) (hm : n ≤ maxLen) (hLm : ∀ r, r < n → L r ≤ maxLen) (hao : ao = none → n = 0 ∧ cap = 0) (hrow : PRow w ao n A L C)
    (hsrc : Src w n A L) (hnil : ∀ r, r < n → A r = none → L r = 0 ∧ C r = 0) :
    Calls Try.prog 3 #[.slice ao n cap, .int .i64 k0] w fun e w' => e = .returned (.bool true) ∧ Below w.heap.size w w' := by
  have HZ : Hid (Calls Try.prog 8 #[.slice ao n cap, .int .i64 k0] w fun e w' => BoolOr (∀ r, r < n → L r ≤ 1048576) e ∧ w' = w) := zz8_any ao n cap k0 A L C w hm hLm hrow
  have HR : Hid (PRow w ao n A L C) := hrow
  have HS : Hid (Src w n A L) := hsrc
  have HN : Hid (∀ r, r < n → A r = none → L r = 0 ∧ C r = 0) := hnil
  have HO : Hid (ao = none → n = 0 ∧ cap = 0) := hao
  unfold maxLen at hm
  clear hrow hsrc hnil hao hLm
  by_cases hn : n ≤ 65536
  rotate_left
  · go_enter Try.func3, Try.ntmps3
    go_wp2_with (go_at_call 8; refine HZ.out.mono ?_; rintro e w' ⟨hbo, hw⟩; obtain rfl := hw.symm; clear HZ; rcases hbo with rfl | ⟨rfl, hL⟩)
    all_goals
      go_ret
      exact ⟨rfl, Below.refl _ _⟩
  go_enter Try.func3, Try.ntmps3
  go_wp2_with (go_at_call 8; refine HZ.out.mono ?_; rintro e w' ⟨hbo, hw⟩; obtain rfl := hw.symm; clear HZ; rcases hbo with rfl | ⟨rfl, hL⟩)
  · go_ret
    exact ⟨rfl, Below.refl _ _⟩
  have HL : Hid (∀ r, r < n → L r ≤ 1048576) := hL
  clear hL
  go_loop [5, 6] (fun t i => ∃ k : Nat, k ≤ n ∧ i = .int .i64 k ∧ t = .int .i64 ((24 * k + sumTo L k : Nat) : Int) ∧ 24 * k + sumTo L k ≤ 1048576) (fun _ i => n - (intOf i).toNat)
  case atStart => exact ⟨0, Nat.zero_le _, rfl, rfl, by simp [sumTo]⟩
  case round =>
    obtain ⟨k, hk, rfl, rfl, hsz⟩ := hrel
    by_cases hlt : k < n
    · obtain ⟨b, off, rfl, hc⟩ := HR.out (by omega)
      have hck := hc k hlt
      have hLk := HL.out k hlt
      clear hc HR HL HS HN HO
      by_cases h1 : 24 * k + sumTo L k + (24 + L k) ≤ 1048576
      · go_wp2
        go_round
        case rel => exact ⟨k + 1, by omega, by go_num, by simp only [sumTo]; go_num, by simp only [sumTo]; omega⟩
        case measure => simp [intOf]; omega
      · go_wp2
        go_ret
        exact ⟨rfl, Below.refl _ _⟩
    · obtain rfl : k = n := by omega
      have hsum : sumTo L k ≤ 1048576 := by omega
      by_cases hk1 : k0 < 0
      · go_wp2
        go_ret
        exact ⟨rfl, Below.refl _ _⟩
      by_cases hk2 : (k : Int) < k0
      · go_wp2
        go_ret
        exact ⟨rfl, Below.refl _ _⟩
      obtain ⟨q, rfl⟩ := Int.eq_ofNat_of_zero_le (show 0 ≤ k0 by omega)
      have hqk : q ≤ k := by omega
      have HC : Hid (Calls Try.prog 9 #[.slice ao k cap] w fun e w' => Cloned w w' k L e) := clonePieces_any ao k cap A L C w hn HL.out HO.out HR.out HS.out HN.out
      clear HR HS HN HO
      go_wp2_with (go_at_call 9; refine HC.out.mono ?_; rintro e w1 hcl; clear HC; obtain ⟨a1, A1, C1, rfl, hr1, hs1, hb1⟩ := hcl)
      refine (zzlength_any a1 k k A1 L C1 w1 hn hsum hr1).mono ?_
      rintro e w' ⟨rfl, hw⟩
      obtain rfl := hw.symm
      obtain ⟨i0, hi, hz0, hz1, hz2⟩ := info_parts Try.info5
      obtain ⟨N, hN⟩ : ∃ N, N = sumTo L k := ⟨_, rfl⟩
      rw [← hN] at hsum
      have hNm : N ≤ maxLen := by unfold maxLen; omega
      have HN : Hid (N = sumTo L k) := hN
      have HR1 : Hid (PRow w1 a1 k A1 L C1) := hr1
      have HS1 : Hid (Src w1 k A1 L) := hs1
      have HB1 : Hid (Below w.heap.size w w1) := hb1
      rw [← hN]
      clear hr1 hs1 hb1 hsz hN HL
      go_wp2_with (first
        | (at_make; refine wpList_make_full _ rfl (.tmp 53) (.tmp 53) 24 rfl w1.heap.size 5 i0 (.int .u8 0) 1 Try.underlying24 hi hz0 hz1 .i64 .i64 N N N rfl rfl rfl rfl (by rw [hz2]; omega) hNm (Nat.le_refl _) ?_; intro w2 hown hgrow; obtain ⟨cur, hcur, hlen, hb2⟩ := made_row hown hgrow; have HBuf : Hid (Buf w2 w1.heap.size N) := ⟨cur, hcur, hlen⟩; clear hown hgrow hcur hlen cur))
      have HB2 : Hid (Below w1.heap.size w1 w2) := hb2
      clear hb2 hz0 hz1 hz2 hi i0 hNm
      go_loopw [9, 10] (fun t i wr => ∃ j : Nat, j ≤ k ∧ i = .int .i64 j ∧ t = .int .i64 ((sumTo L j : Nat) : Int) ∧ Buf wr w1.heap.size N ∧ Below w1.heap.size w1 wr) (fun _ i _ => k - (intOf i).toNat)
      case atStart => exact ⟨0, Nat.zero_le _, rfl, rfl, HBuf.out, HB2.out⟩
      case round =>
        obtain ⟨j, hj, rfl, rfl, hbuf, hbw⟩ := hrel
        clear HBuf HB2
        by_cases hlt : j < k
        · obtain ⟨b, off, rfl, hc⟩ := HR1.out (by omega)
          have hcj := hc j hlt
          have HC1 : Hid (w1.cell? ⟨b, off + j, none⟩ = some (.slice (A1 j) (L j) (C1 j))) := hcj
          have hcj' : wr.cell? ⟨b, off + j, none⟩ = some (.slice (A1 j) (L j) (C1 j)) := by rw [hbw.cell (World.block_lt_of_cell? _ _ hcj)]; exact hcj
          have hle := sumTo_le L (show j + 1 ≤ k by omega)
          rw [← HN.out] at hle
          simp only [sumTo] at hle
          have hs0 := HS1.out j hlt
          have HSJ : Hid (0 < L j → ∃ a, A1 j = some a ∧ a.block < w1.heap.size ∧ ∃ d : Nat → Int, ∀ c, c < L j → w1.cell? (a.add c) = some (.int .u8 (d c))) := hs0
          have HBW : Hid (Below w1.heap.size w1 wr) := hbw
          have HBuf : Hid (Buf wr w1.heap.size N) := hbuf
          clear hc hcj hs0 hbw hbuf HR1 HS1 HB1
          obtain ⟨S, hS⟩ : ∃ S, S = sumTo L j := ⟨_, rfl⟩
          have HSS : Hid (S = sumTo L j) := hS
          rw [← hS] at hle ⊢
          clear hS
          by_cases hfull : S < N
          · obtain ⟨d, hd⟩ := src_read HBW.out HSJ.out
            have HD : Hid (0 < (byteCells (L j) d).length → ∃ ad, A1 j = some ad ∧ ∀ i v, (byteCells (L j) d)[i]? = some v → wr.cell? (ad.add i) = some v) := hd
            obtain ⟨cur, hcur, hlen⟩ := HBuf.out
            have hsz1 : (Try.prog.info? 5).map (·.size) = some 1 := by kernel_rfl
            clear hd HBuf
            go_wp2_with (first
              | (refine wpList_copy_splice rfl (.tmp 74) (.tmp 75) 24 24 rfl 5 Try.underlying24 hsz1 _ _ _ _ _ _ rfl rfl w1.heap.size S cur 5 hcur (byteCells (L j) d) (by rw [length_byteCells]; simp [Nat.min_def]; omega) (fun h => ⟨rfl, HD.out h⟩) (by rw [length_byteCells, hlen]; omega) (byteCells_one _ d) w1.heap.size w1 HBW.out (Nat.le_refl _) ?_; intro w3 hrow3 hb3))
            have hc3 : w3.cell? ⟨b, off + j, none⟩ = some (.slice (A1 j) (L j) (C1 j)) := by rw [hb3.cell (World.block_lt_of_cell? _ _ HC1.out)]; exact HC1.out
            refine (one_piece b (off + j) _ (A1 j) (L j) (C1 j) w3 (by omega) hc3).mono ?_
            rintro e w' ⟨rfl, hw⟩
            obtain rfl := hw.symm
            have HBuf3 : Hid (Buf w3 w1.heap.size N) := ⟨_, hrow3.out, by rw [length_splice _ _ _ (by rw [length_byteCells, hlen]; omega)]; exact hlen⟩
            have HB3 : Hid (Below w1.heap.size w1 w3) := hb3
            clear hrow3 hb3 hcur hlen HD hc3 hcj'
            go_wp2
            go_roundw
            case rel => exact ⟨j + 1, by omega, by go_num, by simp only [sumTo]; rw [← HSS.out]; go_num, HBuf3.out, HB3.out⟩
            case measure => simp [intOf]; omega
          · have hl0 : L j = 0 := by omega
            have hSN : S = N := by omega
            have hsz1 : (Try.prog.info? 5).map (·.size) = some 1 := by kernel_rfl
            have HL0 : Hid (L j = 0) := hl0
            have HSN : Hid (S = N) := hSN
            clear hl0
            subst hSN
            go_wp2_with (first
              | (refine wpList_copy_nothing rfl (.tmp 74) (.tmp 75) 24 24 rfl 5 Try.underlying24 hsz1 _ _ _ _ _ _ rfl rfl (by simp [Nat.min_def]) ?_))
            refine (one_piece b (off + j) _ (A1 j) (L j) (C1 j) wr (by omega) hcj').mono ?_
            rintro e w' ⟨rfl, hw⟩
            obtain rfl := hw.symm
            clear hcj'
            go_wp2
            go_roundw
            case rel => exact ⟨j + 1, by omega, by go_num, by simp only [sumTo]; rw [← HSS.out]; go_num, HBuf.out, HBW.out⟩
            case measure => simp [intOf]; omega
        · obtain rfl : j = k := by omega
          have HRW : Hid (PRow wr a1 j A1 L C1) := HR1.out.below hbw
          have HBF : Hid (Below w.heap.size w wr) := HB1.out.trans (hbw.mono HB1.out.size)
          have e1 := HN.out
          clear HR1 HS1 HB1 hbuf hbw
          rw [← e1]
          clear e1
          by_cases hq : q < j
          · obtain ⟨b, off, rfl, hc⟩ := HRW.out (by omega)
            have hsp := sumTo_split L q (j - q)
            rw [show q + (j - q) = j by omega, ← HN.out] at hsp
            have HP : Hid (N = sumTo L q + sumTo (fun r => L (q + r)) (j - q)) := hsp
            have H1 := fun m => zzlength_any (some ⟨b, off, none⟩) q j A1 L C1 (wr.drewN m) (by omega) (by omega) (fun h0 => ⟨b, off, rfl, fun r hr => by rw [World.cell?_drewN]; exact hc r (by omega)⟩)
            have H2 := fun m => zzlength_any (some ⟨b, off + q, none⟩) (j - q) (j - q) (fun r => A1 (q + r)) (fun r => L (q + r)) (fun r => C1 (q + r)) (wr.drewN m) (by omega) (by omega) (fun h0 => ⟨b, off + q, rfl, fun r hr => by rw [World.cell?_drewN, Nat.add_assoc]; exact hc (q + r) (by omega)⟩)
            obtain ⟨S1, hS1⟩ : ∃ S1, S1 = sumTo L q := ⟨_, rfl⟩
            obtain ⟨S2, hS2⟩ : ∃ S2, S2 = sumTo (fun r => L (q + r)) (j - q) := ⟨_, rfl⟩
            rw [← hS1] at H1
            rw [← hS2] at H2
            rw [← hS1, ← hS2] at hsp
            have hsp1 : (S1 : Int) + S2 = N := by omega
            have hl1 : (q : Int) ≤ j := by omega
            have hb1 : S1 ≤ 1048576 := by omega
            have hb2 : S2 ≤ 1048576 := by omega
            clear hS1 hS2 hc hsp
            go_wp2_with fail
            go_quiet (first | (go_at_call_of 10 (Value.slice (some ⟨b, off, none⟩) q j); exact Calls.quiet_of_same (H1 _)) | (go_at_call 10; exact Calls.quiet_of_same (H2 _)))
            clear H1 H2
            go_wp2_with fail
            refine (no_piece none 0 _).mono ?_
            rintro e w' ⟨rfl, hw⟩
            obtain rfl := hw.symm
            go_wp2_with fail
            refine (no_piece (some ⟨b, off, none⟩) j _).mono ?_
            rintro e w' ⟨rfl, hw⟩
            obtain rfl := hw.symm
            go_wp2
            go_ret
            exact ⟨rfl, below_drewN HBF.out _⟩
          · obtain rfl : q = j := by omega
            have H1 := fun m => zzlength_any a1 q q A1 L C1 (wr.drewN m) (by omega) (by rw [← HN.out]; exact hsum) (HRW.out.below (below_drewN (Below.refl _ _) m))
            rw [← HN.out] at H1
            have H2 := fun m a => no_piece a 0 (wr.drewN m)
            go_wp2_with fail
            go_quiet (first | (go_at_call_of 10 (Value.slice a1 q q); exact Calls.quiet_of_same (H1 _)) | (go_at_call 10; exact Calls.quiet_of_same (H2 _ _)))
            clear H1 H2
            go_wp2_with fail
            refine (no_piece none 0 _).mono ?_
            rintro e w' ⟨rfl, hw⟩
            obtain rfl := hw.symm
            go_wp2_with fail
            refine (no_piece a1 q _).mono ?_
            rintro e w' ⟨rfl, hw⟩
            obtain rfl := hw.symm
            go_wp2
            go_ret
            exact ⟨rfl, below_drewN HBF.out _⟩
end Go.Proofs.Qxb6602604a
