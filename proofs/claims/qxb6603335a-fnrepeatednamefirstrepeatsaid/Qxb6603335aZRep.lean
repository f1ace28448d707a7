import Derived.Test.Qxb6603335aRepM
namespace Go.Proofs.Qxb6603335a
open Go.RowKit

set_option maxHeartbeats 1000000 in
theorem zzrep_any (ao : Option Addr) (n cn : Nat) (A : Nat → Option Addr) (L C : Nat → Nat) (D : Nat → Nat → Int) (w : World) (hn : n ≤ 65536) (hN : Nm w ao n A L C D) (hR : ∀ r, r < n → Rng (L r) (D r)) (hL : ∀ r, r < n → L r ≤ 1048576) :
    Calls Try.prog 8 #[.slice ao n cn] w fun e w' => RE (fun r => nl (L r) (D r)) n e ∧ Below w.heap.size w w' := by
  have HN : Hid (Nm w ao n A L C D) := hN
  have HR : Hid (∀ r, r < n → Rng (L r) (D r)) := hR
  have HL : Hid (∀ r, r < n → L r ≤ 1048576) := hL
  clear hN hR hL
  go_enter Try.func8, Try.ntmps8
  go_wp2_with (at_make; refine wpl_makeM rfl (.tmp 7) (.tmp 7) rfl n _ _ rfl rfl rfl rfl (by omega) A L C ?_; intro w1 hmb1 hb1)
  go_loopw [11] (fun vi wr => ∃ k : Nat, k ≤ n ∧ vi = .int .i64 (k : Int) ∧ Hid (MB wr w.heap.size n k A L C) ∧ Hid (Below w.heap.size w wr)) (fun vi _ => n - (intOf vi).toNat)
  case atStart => exact ⟨0, Nat.zero_le _, rfl, hmb1, hb1⟩
  case round =>
    obtain ⟨k, hk, rfl, hmb, hbw⟩ := hrel
    clear hmb1 hb1
    by_cases hlt : k < n
    · obtain ⟨b, off, rfl, hc⟩ := HN.out.row (by omega)
      have hck : wr.cell? ⟨b, off + k, none⟩ = some (.slice (A k) (L k) (C k)) := by rw [hbw.out.cell (World.block_lt_of_cell? _ _ (hc k hlt))]; exact hc k hlt
      have hm0 := (hmb.out.cells hlt).1
      rw [if_neg (by omega)] at hm0
      have hf0 := hmb.out.free (k * 3)
      have HST : Hid (MB (wr.setCell ⟨w.heap.size, k * 3, none⟩ (.slice (A k) (L k) (C k))) w.heap.size n (k + 1) A L C) := hmb.out.step hlt
      have HB2 : Hid (Below w.heap.size w (wr.setCell ⟨w.heap.size, k * 3, none⟩ (.slice (A k) (L k) (C k)))) := hbw.out.setCell (Nat.le_refl _) _
      clear hc hmb hbw
      go_wp2
      go_roundw
      case rel => exact ⟨k + 1, by omega, by go_num, HST, HB2⟩
      case measure => simp [intOf]; omega
    · obtain rfl : k = n := by omega
      have HM : Mem wr w.heap.size k A L C D := ⟨hmb.out, (HN.out.below hbw.out).nam⟩
      have H : Calls Try.prog 12 #[.slice (some ⟨w.heap.size, 0, none⟩) k k] wr fun e w' => RE (fun r => nl (L r) (D r)) k e ∧ Below wr.heap.size wr w' := by
        by_cases h8 : k ≤ 8
        · exact repS w.heap.size k A L C D wr h8 HM HR.out
        · exact repM w.heap.size k A L C D wr (by omega) hn HM HR.out HL.out
      clear HM hmb
      go_wp2_with fail
      refine H.mono ?_
      rintro e w2 ⟨he, hb2⟩
      have HB : Hid (Below w.heap.size w w2) := hbw.out.trans (hb2.mono hbw.out.size)
      clear H hb2 hbw
      rcases he with ⟨rfl, hf⟩ | ⟨j, rfl, hf⟩
      · have HF : Hid (First (fun r => nl (L r) (D r)) k none) := hf
        clear hf
        go_wp2
        go_ret2
        exact ⟨Or.inl ⟨rfl, HF.out⟩, HB.out⟩
      · have HF : Hid (First (fun r => nl (L r) (D r)) k (some j)) := hf
        clear hf
        go_wp2
        go_ret2
        exact ⟨Or.inr ⟨j, rfl, HF.out⟩, HB.out⟩
end Go.Proofs.Qxb6603335a
