import Derived.Test.Qxb6603335aRep
namespace Go.Proofs.Qxb6603335a
open Go.RowKit

/-- The members and their names, as they lie. -/
structure Mem (w : World) (g n : Nat) (A : Nat → Option Addr) (L C : Nat → Nat) (D : Nat → Nat → Int) : Prop where
  mb : MB w g n n A L C
  nam : ∀ r, r < n → SlB w (A r) (L r) (C r) (D r)
theorem Mem.below {w w1 : World} {g n : Nat} {A : Nat → Option Addr} {L C : Nat → Nat} {D : Nat → Nat → Int} (h : Mem w g n A L C D) (hb : Below w.heap.size w w1) : Mem w1 g n A L C D := ⟨h.mb.below hb, fun r hr => (h.nam r hr).below hb⟩
theorem Mem.cells {w : World} {g n : Nat} {A : Nat → Option Addr} {L C : Nat → Nat} {D : Nat → Nat → Int} (h : Mem w g n A L C D) {r : Nat} (hr : r < n) :
    w.cell? ⟨g, r * 3, none⟩ = some (.slice (A r) (L r) (C r)) ∧ w.cell? ⟨g, r * 3 + 1, none⟩ = some (.slice none 0 0) ∧ w.cell? ⟨g, r * 3 + 2, none⟩ = some (.int .i64 0) := by
  have := h.mb.cells hr
  rwa [if_pos hr] at this

set_option maxHeartbeats 2000000 in
theorem repS (g n : Nat) (A : Nat → Option Addr) (L C : Nat → Nat) (D : Nat → Nat → Int) (w : World) (hn : n ≤ 8) (hM : Mem w g n A L C D) (hR : ∀ r, r < n → Rng (L r) (D r)) :
    Calls Try.prog 12 #[.slice (some ⟨g, 0, none⟩) n n] w fun e w' => RE (fun r => nl (L r) (D r)) n e ∧ Below w.heap.size w w' := by
  have HM : Hid (Mem w g n A L C D) := hM
  have HR : Hid (∀ r, r < n → Rng (L r) (D r)) := hR
  clear hM hR
  have t8 : decide ((n : Int) ≤ 8) = true := decide_eq_true (by omega)
  go_enter Try.func12, Try.ntmps12
  go_wp2
  go_loopw [16] (fun vi wr => ∃ i : Nat, i ≤ n ∧ vi = .int .i64 (i : Int) ∧ Hid (∀ j, j < i → ¬ isRep (fun r => nl (L r) (D r)) j) ∧ Hid (Below w.heap.size w wr)) (fun vi _ => n - (intOf vi).toNat)
  case atStart => exact ⟨0, Nat.zero_le _, rfl, fun j hj => absurd hj (Nat.not_lt_zero j), Below.refl _ _⟩
  case round =>
    obtain ⟨i, hi, rfl, hno, hbw⟩ := hrel
    by_cases hlt : i < n
    · have hmw := HM.out.below hbw.out
      obtain ⟨c0, c1, c2⟩ := hmw.cells hlt
      clear hmw
      go_wp2
      have hsz := hbw.out.size
      have HMW : Hid (Mem wr g n A L C D) := HM.out.below hbw.out
      obtain ⟨bm, hbm⟩ : ∃ bm, bm = wr.heap.size := ⟨_, rfl⟩
      have HB1 : Hid (Below w.heap.size w (wr.alloc (.cells #[.slice (A i) (L i) (C i), .slice none 0 0, .int .i64 0] 37))) := hbw.out.alloc hsz _
      have HC1 : Hid ((wr.alloc (.cells #[.slice (A i) (L i) (C i), .slice none 0 0, .int .i64 0] 37)).cell? ⟨bm, 0, none⟩ = some (.slice (A i) (L i) (C i))) := by rw [hbm]; show _ = _; simp
      rw [← hbm]
      obtain ⟨wp, hwp⟩ : ∃ wp : World, wp = wr := ⟨_, rfl⟩
      rw [← hwp] at HB1 HC1 ⊢
      clear hwp hbm c0 c1 c2 hsz HMW hbw
      go_loopw [25] (fun vj wr => ∃ j : Nat, j ≤ i ∧ vj = .int .i64 (j : Int) ∧ Hid (∀ q, q < j → nl (L q) (D q) ≠ nl (L i) (D i)) ∧ Hid (Below w.heap.size w wr) ∧ Hid (wr.cell? ⟨bm, 0, none⟩ = some (.slice (A i) (L i) (C i)))) (fun vj _ => i - (intOf vj).toNat)
      case atStart => exact ⟨0, Nat.zero_le _, rfl, fun q hq => absurd hq (Nat.not_lt_zero q), HB1, HC1⟩
      case round =>
        obtain ⟨j, hj, rfl, hne, hb2, hcm⟩ := hrel
        clear HB1 HC1
        by_cases hji : j < i
        · have hmw := HM.out.below hb2.out
          obtain ⟨c0, c1, c2⟩ := hmw.cells (show j < n by omega)
          have hcm' := hcm.out
          have hsz := hb2.out.size
          have SI := fun o => (hmw.nam i hlt).below ((Below.refl _ wr).alloc (Nat.le_refl _) o)
          have SJ := fun o => (hmw.nam j (by omega)).below ((Below.refl _ wr).alloc (Nat.le_refl _) o)
          have hconv := fun o => conv_any (wr.alloc o) (SI o)
          have HEQ := fun o => equal_any (A i) (L i) (C i) (D i) (A j) (L j) (C j) (D j) (wr.alloc o) (SI o) (SJ o)
          have HBO : Hid (∀ o, Below w.heap.size w (wr.alloc o)) := fun o => hb2.out.alloc hsz o
          have HCO : Hid (∀ o, (wr.alloc o).cell? ⟨bm, 0, none⟩ = some (.slice (A i) (L i) (C i))) := fun o => by
            rw [((Below.refl _ wr).alloc (Nat.le_refl _) o).cell (World.block_lt_of_cell? _ _ hcm')]; exact hcm'
          have hcmo := HCO.out
          have hbl := World.block_lt_of_cell? _ _ hcm'
          obtain ⟨X, hX⟩ : ∃ X, X = strOfNums (nl (L i) (D i)) := ⟨_, rfl⟩
          obtain ⟨Y, hY⟩ : ∃ Y, Y = strOfNums (nl (L j) (D j)) := ⟨_, rfl⟩
          simp only [← hX, ← hY] at hconv HEQ
          clear SI SJ hmw
          by_cases hxy : X = Y
          · have te : decide (X = Y) = true := decide_eq_true hxy
            have HF : Hid (First (fun r => nl (L r) (D r)) n (some i)) :=
              ⟨hlt, ⟨j, hji, (str_inj (HR.out i hlt) (HR.out j (by omega)) (by rw [← hX, ← hY]; exact hxy)).symm⟩, hno.out⟩
            have HX : Hid (X = strOfNums (nl (L i) (D i))) := hX
            simp only [te] at HEQ
            clear hxy hX hY hne hno te
            go_wp2_with (go_at_call 15; refine (HEQ _).mono ?_; rintro e w' ⟨rfl, hw⟩; obtain rfl := hw.symm; clear hw)
            go_ret2
            exact ⟨Or.inr ⟨i, by rw [HX.out]; rfl, HF.out⟩, HBO.out _⟩
          · have te : decide (X = Y) = false := decide_eq_false hxy
            have HNE : Hid (∀ q, q < j + 1 → nl (L q) (D q) ≠ nl (L i) (D i)) := fun q hq => by
              rcases Nat.lt_or_ge q j with h | h
              · exact hne.out q h
              · obtain rfl : q = j := by omega
                exact fun e => hxy (by rw [hX, hY, e])
            simp only [te] at HEQ
            clear hxy hX hY hne te
            go_wp2_with (go_at_call 15; refine (HEQ _).mono ?_; rintro e w' ⟨rfl, hw⟩; obtain rfl := hw.symm; clear hw)
            go_roundw
            case rel => exact ⟨j + 1, by omega, by go_num, HNE, HBO.out _, HCO.out _⟩
            case measure => simp [intOf]; omega
        · have HNO : Hid (∀ q, q < i + 1 → ¬ isRep (fun r => nl (L r) (D r)) q) := fun q hq => by
            rcases Nat.lt_or_ge q i with h | h
            · exact hno.out q h
            · obtain rfl : q = i := by omega
              rintro ⟨r, hr, e⟩
              exact hne.out r (by omega) e
          clear hne hno hcm
          go_wp2
          go_roundw
          case rel => exact ⟨i + 1, by omega, by go_num, HNO, hb2⟩
          case measure => simp [intOf]; omega
    · have HF : Hid (First (fun r => nl (L r) (D r)) n none) := fun j hj => hno.out j (by omega)
      clear hno
      go_wp2
      go_ret2
      exact ⟨Or.inl ⟨rfl, HF.out⟩, hbw.out⟩
end Go.Proofs.Qxb6603335a
