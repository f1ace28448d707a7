import Derived.Test.Qxb6602604aElemMatch
namespace Go.Proofs.Qxb6602604a
open Go.RowKit

/-- Two rows end to end. -/
def cat (k : Nat) (d1 d2 : Nat → Int) : Nat → Int := fun i => if i < k then d1 i else d2 (i - k)
theorem cat_lo {k i : Nat} (d1 d2 : Nat → Int) (h : i < k) : cat k d1 d2 i = d1 i := by simp [cat, h]
theorem cat_hi {k i : Nat} (d1 d2 : Nat → Int) : cat k d1 d2 (k + i) = d2 i := by unfold cat; rw [if_neg (by omega), Nat.add_sub_cancel_left]
theorem cat_zero (d1 d2 : Nat → Int) : cat 0 d1 d2 = d2 := by funext i; simp [cat]
theorem byteCells_cat (k m : Nat) (d1 d2 : Nat → Int) : byteCells k d1 ++ byteCells m d2 = byteCells (k + m) (cat k d1 d2) := by
  unfold byteCells
  rw [List.range_add, List.map_append, List.map_map]
  congr 1
  · refine List.map_congr_left fun i hi => ?_
    rw [cat_lo _ _ (List.mem_range.1 hi)]
  · refine List.map_congr_left fun i _ => ?_
    simp [cat_hi]

/-- A row of the call's own: k bytes are laid, there is room for cap. -/
def Own (w : World) (g k cap : Nat) (d : Nat → Int) : Prop := w.ownsRow g 5 1 (.slice (some ⟨g, 0, none⟩) k cap) k (byteCells k d)
theorem Own.cell {w : World} {g k cap : Nat} {d : Nat → Int} (h : Own w g k cap d) : ∀ i, i < k → w.cell? ⟨g, 0 + i, none⟩ = some (.int .u8 (d i)) := by
  intro i hi
  rw [Nat.zero_add, World.ownsRow.cellAt h i (by omega)]
  simp [byteCells, hi]
theorem Own.lt {w : World} {g k cap : Nat} {d : Nat → Int} (h : Own w g k cap d) : g < w.heap.size := (World.ownsRow.lt h g rfl).2

theorem grown_below {w w' : World} {g : Nat} (h : w.grownBy w' (some g)) (hg : g < w.heap.size) : Below g w w' :=
  ⟨h.os, h.tape, h.output, h.size, fun k hk => h.block k (by omega) (fun e => by injection e with e; omega)⟩

theorem wpl_make0 {w : World} {ops : Array Oper} {rest : List Oper} {o : Oper} {a : Act} {Q : Exit → Act → World → Prop}
    (hg : o.guard = none) (c : Operand) (l : Operand) (hop : o.op = Op.makeSlice 24 l c) (n : Nat) (hl : a.eval l = .int .i64 0) (C : Int) (hc : a.eval c = .int .i64 C) (hC : C = (n : Int)) (hn : n ≤ 16777216)
    (hK : ∀ w', (∀ d, Own w' w.heap.size 0 n d) → Below w.heap.size w w' → wpList Try.prog ops Q rest (a.put o.dst (.slice (some ⟨w.heap.size, 0, none⟩) 0 n)) w') :
    wpList Try.prog ops Q (o :: rest) a w := by
  obtain ⟨i0, hi, hz0, hz1, hz2⟩ := info_parts Try.info5
  refine wpList_make_own w hg l c 24 hop w.heap.size 5 i0 (.int .u8 0) 1 Try.underlying24 hi hz0 hz1 .i64 .i64 C n hl hc hC (by rw [hz2]; omega) (by unfold maxLen; omega) (Nat.le_refl _) ?_
  intro w' hown hgrow
  exact hK w' (fun d => hown) ((Below.refl _ _).grown hgrow (Nat.le_refl _) (by simp))

theorem wpl_app {w : World} {ops : Array Oper} {rest : List Oper} {o : Oper} {a : Act} {Q : Exit → Act → World → Prop}
    (hg : o.guard = none) (s x : Operand) (hop : o.op = Op.call { callee := Callee.builtin Builtin.append, args := #[s, x], argTypes := #[24, 24] })
    (g k cap : Nat) (d1 : Nat → Int) (hs : a.eval s = .slice (some ⟨g, 0, none⟩) k cap) (hown : Own w g k cap d1) (ao : Option Addr) (m c : Nat) (d2 : Nat → Int) (hx : a.eval x = .slice ao m c)
    (hnone : ao = none → m = 0 ∧ c = 0) (hc : BRow w ao m d2) (b1 : k + m ≤ cap)
    (hK : ∀ w', Own w' g (k + m) cap (cat k d1 d2) → Below g w w' → wpList Try.prog ops Q rest (a.put o.dst (.slice (some ⟨g, 0, none⟩) (k + m) cap)) w') :
    wpList Try.prog ops Q (o :: rest) a w := by
  obtain ⟨i0, hi, hz0, hz1, hz2⟩ := info_parts Try.info5
  refine wpList_append_fits_any w hg s x 24 hop g 5 i0 1 Try.underlying24 hi hz1 g k cap (byteCells k d1) hs hown ao m c (byteCells m d2) hx (by rw [length_byteCells]; omega) hnone ?_ (byteCells_one _ _) b1 ?_
  · intro ad had j u hu
    obtain ⟨hj, rfl⟩ := byteCells_get hu
    obtain ⟨b, off, e, hcell⟩ := hc (by omega)
    rw [had] at e
    obtain rfl := Option.some.inj e
    rw [Addr.add_lit]
    exact hcell j hj
  · intro w' hown' hgrow
    refine hK w' ?_ (grown_below hgrow hown.lt)
    unfold Own
    rw [← byteCells_cat]
    exact hown'

/-- cloneBytes at whatever slice. -/
def ClonedB (w w' : World) (n : Nat) (d : Nat → Int) (e : Ending) : Prop := ∃ a : Option Addr, e = .returned (.slice a n n) ∧ (a = none → n = 0) ∧ BRow w' a n d ∧ Below w.heap.size w w'

theorem clone_any (a : Option Addr) (n cap : Nat) (d : Nat → Int) (w : World) (hn : n ≤ 4194304) (hz : a = none → n = 0 ∧ cap = 0) (hr : BRow w a n d) :
    Calls Try.prog 13 #[.slice a n cap] w fun e w' => ClonedB w w' n d e := by
  cases a with
  | none =>
    obtain ⟨rfl, rfl⟩ := hz rfl
    refine (clone_nil w).mono ?_
    rintro e w' ⟨rfl, rfl⟩
    exact ⟨none, rfl, fun _ => rfl, hr, Below.refl _ _⟩
  | some x =>
    refine (clone_some x n cap d w hn ?_ ?_).mono ?_
    · intro i hi
      obtain ⟨b, off, e, hc⟩ := hr (by omega)
      obtain rfl := Option.some.inj e
      rw [Addr.add_lit]; exact hc i hi
    · intro i hi
      obtain ⟨b, off, e, hc⟩ := hr (by omega)
      obtain rfl := Option.some.inj e
      exact World.block_lt_of_cell? _ _ (hc 0 (by omega))
    · rintro e w' ⟨rfl, h1, h2⟩
      exact ⟨_, rfl, fun h => (by cases h), fun _ => ⟨_, _, rfl, fun i hi => by rw [Nat.zero_add]; exact row_bytes h1 i hi⟩, h2⟩

theorem BRow.below {w w' : World} {a : Option Addr} {n B : Nat} {d : Nat → Int} (h : BRow w a n d) (hb : Below B w w') (hB : w.heap.size ≤ B) : BRow w' a n d := by
  intro h0
  obtain ⟨b, off, rfl, hc⟩ := h h0
  exact ⟨b, off, rfl, fun i hi => by rw [hb.cell (Nat.lt_of_lt_of_le (World.block_lt_of_cell? _ _ (hc i hi)) hB)]; exact hc i hi⟩

theorem zzelem_at (b off n cap s r : Nat) (S R : Int) (d : Nat → Int) (w : World) (hS : S = (s : Int)) (hR : R = (r : Int)) (hn : n ≤ 16777216) (hs : s < n) (hr : ee d n s = some r)
    (hc : ∀ i, i < n → w.cell? ⟨b, off + i, none⟩ = some (.int .u8 (d i))) :
    Calls Try.prog 14 #[.slice (some ⟨b, off, none⟩) n cap, .int .i64 S] w fun e w' => e = .returned (.int .i64 R) ∧ w' = w := by
  subst hS; subst hR
  exact zzelem_any b off n cap s r d w hn hs hr hc

/-! ### Where an element ends hangs only on its own bytes and, if it is bare, on what follows it -/
theorem ee_bounds {d : Nat → Int} {n s r : Nat} (hs : s < n) (h : ee d n s = some r) : s < r ∧ r ≤ n := by
  unfold ee at h
  split at h
  · have := qe_bounds d _ _ _ _ h; omega
  · have := de_spec d (n - (s + 1)) (s + 1)
    rw [Option.some.inj h] at this
    omega
theorem ee_after {d : Nat → Int} {n s r : Nat} (hs : s < n) (h : ee d n s = some r) : d s = 34 ∨ r = n ∨ dl (d r) = true := by
  unfold ee at h
  split at h
  · left; assumption
  · have := de_spec d (n - (s + 1)) (s + 1)
    rw [Option.some.inj h] at this
    rcases this.2.2.2 with h1 | h1
    · right; left; omega
    · right; right; exact h1
theorem ee_move {d d' : Nat → Int} {n n' s s' r : Nat} (hs : s < n) (h : ee d n s = some r) (hd : ∀ j, s + j < r → d' (s' + j) = d (s + j)) (hn : s' + (r - s) ≤ n')
    (hx : d s = 34 ∨ s' + (r - s) = n' ∨ dl (d' (s' + (r - s))) = true) : ee d' n' s' = some (s' + (r - s)) := by
  have hb := ee_bounds hs h
  have h0 := hd 0 (by omega)
  simp only [Nat.add_zero] at h0
  unfold ee at h ⊢
  rw [h0]
  by_cases h34 : d s = 34
  · rw [if_pos h34] at h ⊢
    have := qe_shift _ _ _ _ h (s' + 1) (n' - (s' + 1)) (fun j hj => by rw [show s' + 1 + j = s' + (j + 1) by omega, show s + 1 + j = s + (j + 1) by omega]; exact hd (j + 1) (by omega)) (by omega)
    rw [this]; congr 1; omega
  · rw [if_neg h34] at h ⊢
    congr 1
    refine de_eq (by omega) hn (fun j h1 h2 => ?_) ?_
    · have hsp := (de_spec d (n - (s + 1)) (s + 1)).2.2.1 (s + (j - s')) (by omega) (by rw [Option.some.inj h]; omega)
      have := hd (j - s') (by omega)
      rw [show s' + (j - s') = j by omega] at this
      rw [this]; exact hsp
    · rcases hx with h1 | h1 | h1
      · exact absurd h1 h34
      · left; exact h1
      · right; exact h1
end Go.Proofs.Qxb6602604a
