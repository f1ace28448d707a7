import Derived.Test.Qxb6603335aZRep
import Derived.Test.Qxb6603335aFirst
namespace Go.Proofs.Qxb6603335a
open Go.RowKit

theorem empty_nil : ByteArray.empty.toList.isEmpty = true := by rw [ByteArray.toList_eq]; rfl

set_option maxHeartbeats 2000000 in
theorem walk3 (ao : Option Addr) (n cap : Nat) (A : Nat → Option Addr) (L C : Nat → Nat) (D : Nat → Nat → Int) (w : World) (hm : n ≤ maxLen) (hLm : ∀ r, r < n → L r ≤ maxLen) (hao : ao = none → n = 0 ∧ cap = 0) (hrow : PRow w ao n A L C)
    (hin : ∀ r, r < n → InB w (A r) (L r) (C r) (D r)) (hR : ∀ r, r < n → Rng (L r) (D r)) :
    Calls Try.prog 3 #[.slice ao n cap] w fun e w' => e = .returned (.bool true) ∧ Below w.heap.size w w' := by
  have HZ : Hid (Calls Try.prog 5 #[.slice ao n cap] w fun e w' => BoolOr (∀ r, r < n → L r ≤ 1048576) e ∧ w' = w) := zz5_any ao n cap A L C w hm hLm hrow
  have HM : Hid (n ≤ maxLen) := hm
  have HP : Hid (PRow w ao n A L C) := hrow
  have HI : Hid (∀ r, r < n → InB w (A r) (L r) (C r) (D r)) := hin
  have HR : Hid (∀ r, r < n → Rng (L r) (D r)) := hR
  have HO : Hid (ao = none → n = 0 ∧ cap = 0) := hao
  clear hrow hin hao hLm hR hm
  have he := empty_nil
  go_enter Try.func3, Try.ntmps3
  go_wp2_with (go_at_call 5; refine HZ.out.mono ?_; rintro e w' ⟨hbo, hw⟩; obtain rfl := hw.symm; clear HZ; rcases hbo with rfl | ⟨rfl, hL⟩)
  · go_ret
    exact ⟨rfl, Below.refl _ _⟩
  have HL : Hid (∀ r, r < n → L r ≤ 1048576) := hL
  clear hL
  go_wp2_with (go_at_call 6; refine (namesBytes_any ao n cap A L C w HM.out HL.out HP.out).mono ?_; rintro e w' ⟨hbo, hw⟩; obtain rfl := hw.symm; rcases hbo with rfl | ⟨q, rfl, hq, hn⟩)
  · go_ret
    exact ⟨rfl, Below.refl _ _⟩
  have hq1 : decide ((1048576 : Int) < (q : Int)) = false := decide_eq_false (by omega)
  go_wp2_with (go_at_call 7; refine (copyN_any ao n cap A L C D w hn HL.out HO.out HP.out HI.out).mono ?_; rintro e w1 hc; obtain ⟨a1, A1, C1, rfl, hN1, hb1⟩ := hc; have HN1 : Hid (Nm w1 a1 n A1 L C1 D) := hN1; have HB1 : Hid (Below w.heap.size w w1) := hb1; clear hN1 hb1)
  refine (zzrep_any a1 n n A1 L C1 D w1 hn HN1.out HR.out HL.out).mono ?_
  rintro e w2 ⟨hre, hb2⟩
  have HRE : Hid (RE (fun r => nl (L r) (D r)) n e) := hre
  have HB2 : Hid (Below w.heap.size w w2) := HB1.out.trans (hb2.mono HB1.out.size)
  have HN2 : Hid (Nm w2 a1 n A1 L C1 D) := HN1.out.below hb2
  clear hre hb2 HN1 HB1
  rcases HRE.out with ⟨rfl, hf⟩ | ⟨j, rfl, hf⟩
  · have HF : Hid (First (fun r => nl (L r) (D r)) n none) := hf
    clear hf HRE
    go_wp2_with fail
    refine (firstRepeat_any a1 n n A1 L C1 D w2 hn HN2.out HL.out).mono ?_
    rintro e w3 ⟨hfr, hb3⟩
    have HB3 : Hid (Below w.heap.size w w3) := HB2.out.trans (hb3.mono HB2.out.size)
    clear HB2 hb3
    rcases hfr with ⟨rfl, hg⟩ | ⟨i, rfl, hg⟩
    · clear hg
      go_wp2
      go_ret
      exact ⟨rfl, HB3.out⟩
    · cases HF.out.uniq hg
  · have HF : Hid (First (fun r => nl (L r) (D r)) n (some j)) := hf
    clear hf HRE
    go_wp2_with fail
    refine (firstRepeat_any a1 n n A1 L C1 D w2 hn HN2.out HL.out).mono ?_
    rintro e w3 ⟨hfr, hb3⟩
    have HB3 : Hid (Below w.heap.size w w3) := HB2.out.trans (hb3.mono HB2.out.size)
    have HN3 : Hid (Nm w3 a1 n A1 L C1 D) := HN2.out.below hb3
    clear HB2 HN2 hb3
    rcases hfr with ⟨rfl, hg⟩ | ⟨i, rfl, hg⟩
    · cases HF.out.uniq hg
    · cases HF.out.uniq hg
      clear hg
      have hjn := HF.out.1
      obtain ⟨b, off, rfl, hc⟩ := HN3.out.row (by omega)
      have hcj := hc j hjn
      have hconv := conv_any w3 (HN3.out.nam j hjn)
      obtain ⟨X, hX⟩ : ∃ X, X = strOfNums (nl (L j) (D j)) := ⟨_, rfl⟩
      simp only [← hX] at hconv ⊢
      clear hc hX
      go_wp2
      go_ret
      exact ⟨rfl, HB3.out⟩
end Go.Proofs.Qxb6603335a
