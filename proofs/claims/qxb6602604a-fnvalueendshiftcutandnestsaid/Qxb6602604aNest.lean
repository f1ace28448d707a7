import Derived.Test.Qxb6602604aDom
namespace Go.Proofs.Qxb6602604a
open Go.RowKit

/-! ### The value set into [v,v] and into an object -/
theorem dl44 : dl 44 = true := rfl
theorem dl93 : dl 93 = true := rfl
theorem dl125 : dl 125 = true := rfl

theorem arr_ok {d D : Nat → Int} {n s r m : Nat} (h : Value' d n s r) (hm : m = r - s) (a0 : D 0 = 91) (a1 : ∀ j, j < m → D (1 + j) = d (s + j)) (a2 : D (1 + m) = 44) (a3 : ∀ j, j < m → D (2 + m + j) = d (s + j)) (a4 : D (2 + 2 * m) = 93) :
    Head D (2 * m + 3) 0 0 (2 * m + 3) ∧ Head D (2 * m + 3) 0 1 (1 + m) ∧ Head D (2 * m + 3) 0 (2 + m) (2 + 2 * m) := by
  have hlo := h.lo
  subst hm
  have A1 : Agree d s r D 1 := fun j hj => a1 j (by omega)
  have A3 : Agree d s r D (2 + (r - s)) := fun j hj => a3 j (by omega)
  have f1 : D 1 = d s := by have := a1 0 (by omega); simpa using this
  have e2 : 2 + (r - s) + (r - s) = 2 + 2 * (r - s) := by omega
  have x1 : DelimAt D (2 * (r - s) + 3) (1 + (r - s)) := Or.inr (by rw [a2]; exact dl44)
  have x3 : DelimAt D (2 * (r - s) + 3) (2 + (r - s) + (r - s)) := Or.inr (by rw [e2, a4]; exact dl93)
  refine ⟨?_, h.here A1 (by omega) (Or.inl x1), ?_⟩
  · refine head_open (by omega) (Or.inl a0) (after_go (by omega) (by omega) (by rw [Nat.zero_add, f1]; exact h.first) ?_)
    rw [Nat.zero_add]
    refine h.go D _ 1 1 _ A1 (by omega) (Or.inl x1) (after_sep (by omega) (by omega) (Or.inl a2) ?_)
    rw [show 1 + (r - s) + 1 = 2 + (r - s) by omega]
    refine h.go D _ (2 + (r - s)) 1 _ A3 (by omega) (Or.inl x3) ?_
    rw [e2]
    refine after_go (by omega) (by omega) (by rw [a4]; omega) (head_close (by omega) (Or.inl a4) ?_)
    rw [show 2 + 2 * (r - s) + 1 = 2 * (r - s) + 3 by omega]
    exact after_zero
  · have := h.here A3 (n' := 2 * (r - s) + 3) (by omega) (Or.inl x3)
    rwa [e2] at this

theorem obj_ok {d D : Nat → Int} {n s r m : Nat} (h : Value' d n s r) (hm : m = r - s) (b0 : D 0 = 123) (b1 : D 1 = 34) (b2 : D 2 = 107) (b3 : D 3 = 34) (b4 : D 4 = 58) (b5 : ∀ j, j < m → D (5 + j) = d (s + j)) (b6 : D (5 + m) = 125) :
    Head D (m + 6) 0 0 (m + 6) ∧ Head D (m + 6) 0 1 4 ∧ Head D (m + 6) 0 5 (5 + m) := by
  have hlo := h.lo
  subst hm
  have A5 : Agree d s r D 5 := fun j hj => b5 j (by omega)
  have x5 : DelimAt D (r - s + 6) (5 + (r - s)) := Or.inr (by rw [b6]; exact dl125)
  have hq : qe D (r - s + 6 - 2) 2 false = some 4 := by
    rw [qe_plain (n := r - s + 6) (by omega) (by rw [b2]; omega) (by rw [b2]; omega)]
    exact qe_quote (n := r - s + 6) (by omega) b3
  have hee : ee D (r - s + 6) 1 = some 4 := by unfold ee; rw [if_pos b1]; exact hq
  refine ⟨?_, ?_, h.here A5 (by omega) (Or.inl x5)⟩
  · refine head_open (by omega) (Or.inr b0) (after_go (by omega) (by omega) (by rw [Nat.zero_add, b1]; omega) ?_)
    rw [Nat.zero_add]
    refine head_elem (by omega) (by rw [b1]; omega) (by rw [b1]; omega) hee (after_sep (by omega) (by omega) (Or.inr b4) ?_)
    refine h.go D _ 5 1 _ A5 (by omega) (Or.inl x5) ?_
    refine after_go (by omega) (by omega) (by rw [b6]; omega) (head_close (by omega) (Or.inr b6) ?_)
    rw [show 5 + (r - s) + 1 = r - s + 6 by omega]
    exact after_zero
  · exact head_elem (by omega) (by rw [b1]; omega) (by rw [b1]; omega) hee after_zero

/-! ### Rows of constants -/
def lit (l : List Int) : Nat → Int := fun i => l.getD i 0
theorem brow_lit1 (w : World) (c : Int) : BRow (w.alloc (.cells #[.int .u8 c] 5)) (some ⟨w.heap.size, 0, none⟩) 1 (lit [c]) := fun _ =>
  ⟨_, _, rfl, fun i hi => by rw [show i = 0 by omega]; simp [lit]⟩
theorem brow_lit5 (w : World) (c0 c1 c2 c3 c4 : Int) : BRow (w.alloc (.cells #[.int .u8 c0, .int .u8 c1, .int .u8 c2, .int .u8 c3, .int .u8 c4] 5)) (some ⟨w.heap.size, 0, none⟩) 5 (lit [c0, c1, c2, c3, c4]) := fun _ =>
  ⟨_, _, rfl, fun i hi => by
    match i, hi with
    | 0, _ => simp [lit]
    | 1, _ => simp [lit]
    | 2, _ => simp [lit]
    | 3, _ => simp [lit]
    | 4, _ => simp [lit]⟩
theorem Own.alloc {w : World} {g k cap : Nat} {d : Nat → Int} (h : Own w g k cap d) (o : Obj) : Own (w.alloc o) g k cap d := World.ownsRow.alloc h o
theorem Own.congr {w : World} {g k k' cap : Nat} {d d' : Nat → Int} (h : Own w g k cap d) (hk : k = k') (hd : ∀ i, i < k → d i = d' i) : Own w g k' cap d' := by
  subst hk
  unfold Own at h ⊢
  rwa [show byteCells k d' = byteCells k d from List.map_congr_left fun i hi => by rw [hd i (List.mem_range.1 hi)]]

theorem cat_at (k : Nat) (d1 d2 : Nat → Int) : cat k d1 d2 k = d2 0 := by simp [cat]
/-- '[' v ',' v ']' as it is laid. -/
def arrD (m : Nat) (v : Nat → Int) : Nat → Int := cat (1 + m + 1 + m) (cat (1 + m + 1) (cat (1 + m) (cat 1 (lit [91]) v) (lit [44])) v) (lit [93])
theorem arrD_ok {d : Nat → Int} {n s m : Nat} (h : Value' d n s (s + m)) :
    Head (arrD m fun j => d (s + j)) (1 + m + 1 + m + 1) 0 0 (2 * m + 3) ∧ Head (arrD m fun j => d (s + j)) (1 + m + 1 + m + 1) 0 1 (1 + m) ∧ Head (arrD m fun j => d (s + j)) (1 + m + 1 + m + 1) 0 (2 + m) (2 + 2 * m) := by
  have hlo := h.lo
  rw [show 1 + m + 1 + m + 1 = 2 * m + 3 by omega]
  refine arr_ok h (by omega) ?_ (fun j hj => ?_) ?_ (fun j hj => ?_) ?_
  · unfold arrD
    rw [cat_lo _ _ (by omega), cat_lo _ _ (by omega), cat_lo _ _ (by omega), cat_lo _ _ (by omega)]; rfl
  · unfold arrD
    rw [cat_lo _ _ (by omega), cat_lo _ _ (by omega), cat_lo _ _ (by omega), cat_hi]
  · unfold arrD
    rw [cat_lo _ _ (by omega), cat_lo _ _ (by omega), cat_at]; rfl
  · unfold arrD
    rw [cat_lo _ _ (by omega), show 2 + m + j = 1 + m + 1 + j by omega, cat_hi]
  · unfold arrD
    rw [show 2 + 2 * m = 1 + m + 1 + m by omega, cat_at]; rfl
/-- An object of the one key k. -/
def objD (m : Nat) (v : Nat → Int) : Nat → Int := cat (5 + m) (cat 5 (lit [123, 34, 107, 34, 58]) v) (lit [125])
theorem objD_ok {d : Nat → Int} {n s m : Nat} (h : Value' d n s (s + m)) :
    Head (objD m fun j => d (s + j)) (5 + m + 1) 0 0 (m + 6) ∧ Head (objD m fun j => d (s + j)) (5 + m + 1) 0 1 4 ∧ Head (objD m fun j => d (s + j)) (5 + m + 1) 0 5 (5 + m) := by
  rw [show 5 + m + 1 = m + 6 by omega]
  refine obj_ok h (by omega) ?_ ?_ ?_ ?_ ?_ (fun j hj => ?_) ?_
  · unfold objD; rw [cat_lo _ _ (by omega), cat_lo _ _ (by omega)]; rfl
  · unfold objD; rw [cat_lo _ _ (by omega), cat_lo _ _ (by omega)]; rfl
  · unfold objD; rw [cat_lo _ _ (by omega), cat_lo _ _ (by omega)]; rfl
  · unfold objD; rw [cat_lo _ _ (by omega), cat_lo _ _ (by omega)]; rfl
  · unfold objD; rw [cat_lo _ _ (by omega), cat_lo _ _ (by omega)]; rfl
  · unfold objD; rw [cat_lo _ _ (by omega), cat_hi]
  · unfold objD; rw [cat_at]; rfl
end Go.Proofs.Qxb6602604a
