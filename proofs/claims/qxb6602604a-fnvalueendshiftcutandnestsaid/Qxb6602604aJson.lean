import Derived.Test.Qxb6602604aOwn
namespace Go.Proofs.Qxb6602604a

/-! ### valueEnd as a plain function with fuel -/
/-- What valueEnd does behind an item, at depth k and place i. -/
def va (rec : Nat → Nat → Option Nat) (d : Nat → Int) (n k i : Nat) : Option Nat :=
  if k = 0 then some i else if n ≤ i then none else if d i = 44 ∨ d i = 58 then rec k (i + 1) else rec k i
def ve (d : Nat → Int) (n : Nat) : Nat → Nat → Nat → Option Nat
  | 0, _, _ => none
  | f + 1, k, i =>
    if n ≤ i then none
    else if d i = 91 ∨ d i = 123 then va (ve d n f) d n (k + 1) (i + 1)
    else if d i = 93 ∨ d i = 125 then (if k = 0 then none else va (ve d n f) d n (k - 1) (i + 1))
    else match ee d n i with
      | none => none
      | some r => va (ve d n f) d n k r

/-- valueEnd's loop, at its head at depth k and place i, comes to e. -/
def Head (d : Nat → Int) (n k i e : Nat) : Prop := ∃ f, ve d n f k i = some e
/-- .. behind an item. -/
def After (d : Nat → Int) (n k i e : Nat) : Prop := ∃ f, va (ve d n f) d n k i = some e

section
variable {d : Nat → Int} {n k i e : Nat}
theorem head_open (hi : i < n) (hc : d i = 91 ∨ d i = 123) (h : After d n (k + 1) (i + 1) e) : Head d n k i e := by
  obtain ⟨f, hf⟩ := h
  refine ⟨f + 1, ?_⟩
  simp only [ve]
  rw [if_neg (by omega), if_pos hc]; exact hf
theorem head_close (hi : i < n) (hc : d i = 93 ∨ d i = 125) (h : After d n k (i + 1) e) : Head d n (k + 1) i e := by
  obtain ⟨f, hf⟩ := h
  refine ⟨f + 1, ?_⟩
  simp only [ve]
  rw [if_neg (by omega), if_neg (by omega), if_pos hc, if_neg (by omega)]; exact hf
theorem head_elem {r : Nat} (hi : i < n) (h1 : ¬ (d i = 91 ∨ d i = 123)) (h2 : ¬ (d i = 93 ∨ d i = 125)) (hr : ee d n i = some r) (h : After d n k r e) : Head d n k i e := by
  obtain ⟨f, hf⟩ := h
  refine ⟨f + 1, ?_⟩
  simp only [ve]
  rw [if_neg (by omega), if_neg h1, if_neg h2, hr]; exact hf
theorem after_zero : After d n 0 i i := ⟨0, by simp [va]⟩
theorem after_sep (hk : 0 < k) (hi : i < n) (hc : d i = 44 ∨ d i = 58) (h : Head d n k (i + 1) e) : After d n k i e := by
  obtain ⟨f, hf⟩ := h
  refine ⟨f, ?_⟩
  unfold va
  rw [if_neg (by omega), if_neg (by omega), if_pos hc]; exact hf
theorem after_go (hk : 0 < k) (hi : i < n) (hc : ¬ (d i = 44 ∨ d i = 58)) (h : Head d n k i e) : After d n k i e := by
  obtain ⟨f, hf⟩ := h
  refine ⟨f, ?_⟩
  unfold va
  rw [if_neg (by omega), if_neg (by omega), if_neg hc]; exact hf
end

/-! ### The value that starts at s, up to p, as jsonEnd has read it -/
def Agree (d : Nat → Int) (s p : Nat) (d' : Nat → Int) (a : Nat) : Prop := ∀ j, s + j < p → d' (a + j) = d (s + j)
theorem Agree.le {d d' : Nat → Int} {s p q a : Nat} (h : Agree d s p d' a) (hq : q ≤ p) : Agree d s q d' a := fun j hj => h j (by omega)
theorem Agree.at {d d' : Nat → Int} {s p q a : Nat} (h : Agree d s p d' a) (h1 : s ≤ q) (h2 : q < p) : d' (a + (q - s)) = d q := by
  have := h (q - s) (by omega)
  rw [show s + (q - s) = q by omega] at this; exact this

def DelimAt (d : Nat → Int) (n x : Nat) : Prop := x = n ∨ dl (d x) = true
/-- A bracket or a quote: a value that begins so ends by itself. -/
def brk (x : Int) : Prop := x = 91 ∨ x = 123 ∨ x = 34
/-- A byte of a number, of true, false, null. -/
def ac (x : Int) : Prop := (97 ≤ x ∧ x ≤ 122) ∨ (48 ≤ x ∧ x ≤ 57) ∨ x = 43 ∨ x = 45 ∨ x = 46 ∨ x = 69
theorem ac_dl {x : Int} (h : ac x) : dl x = false := by
  cases hx : dl x with
  | false => rfl
  | true => have := dl_yes hx; unfold ac at h; omega
/-- An atom lies at [i, j). -/
def Atom (d : Nat → Int) (n i j : Nat) : Prop := i < j ∧ j ≤ n ∧ ∀ q, i ≤ q → q < j → ac (d q)

/-- A value is wanted at p, k brackets being open. -/
structure InvT (d : Nat → Int) (n s k p : Nat) : Prop where
  lo : s ≤ p
  hi : p ≤ n
  top : k = 0 → p = s
  first : s < p → ¬ (d s = 44 ∨ d s = 58)
  go : ∀ d' n' a k0 e, Agree d s p d' a → a + (p - s) ≤ n' → ¬ (d' (a + (p - s)) = 44 ∨ d' (a + (p - s)) = 58) → Head d' n' (k0 + k) (a + (p - s)) e → Head d' n' k0 a e
/-- An item has ended at p. -/
structure InvF (d : Nat → Int) (n s k p : Nat) : Prop where
  lo : s < p
  hi : p ≤ n
  first : ¬ (d s = 44 ∨ d s = 58)
  go : ∀ d' n' a k0 e, Agree d s p d' a → a + (p - s) ≤ n' → (DelimAt d' n' (a + (p - s)) ∨ (brk (d s) ∧ k = 0)) → After d' n' (k0 + k) (a + (p - s)) e → Head d' n' k0 a e

section
variable {d : Nat → Int} {n s k p : Nat}
theorem InvT.start (h : s ≤ n) : InvT d n s 0 s :=
  ⟨Nat.le_refl _, h, fun _ => rfl, fun h => absurd h (Nat.lt_irrefl _), fun d' n' a k0 e _ _ _ h => by simpa using h⟩

theorem InvT.fst (h : InvT d n s k p) (hc : ¬ (d p = 44 ∨ d p = 58)) : ¬ (d s = 44 ∨ d s = 58) := by
  rcases Nat.lt_or_ge s p with h1 | h1
  · exact h.first h1
  · have := h.lo
    rw [show s = p by omega]; exact hc

/-- '[' or '{', a value or a key's value to come right behind it. -/
theorem InvT.push (h : InvT d n s k p) (hp : p < n) (hc : d p = 91 ∨ d p = 123) : InvT d n s (k + 1) (p + 1) := by
  have hlo := h.lo
  refine ⟨by omega, by omega, fun h => by omega, fun _ => h.fst (by omega), fun d' n' a k0 e hA hn' hx hH => ?_⟩
  have hx0 := hA.at hlo (Nat.lt_succ_self p)
  have ex : a + (p + 1 - s) = a + (p - s) + 1 := by omega
  rw [ex] at hn' hx hH
  have hlt : a + (p - s) + 1 < n' := by
    obtain ⟨f, hf⟩ := hH
    cases f with
    | zero => simp [ve] at hf
    | succ f => simp only [ve] at hf; rcases Nat.lt_or_ge (a + (p - s) + 1) n' with h1 | h1; exact h1; rw [if_pos h1] at hf; cases hf
  refine h.go d' n' a k0 e (hA.le (by omega)) (by omega) (by rw [hx0]; omega) ?_
  exact head_open (by omega) (by rw [hx0]; exact hc) (after_go (by omega) hlt hx (by rw [← Nat.add_assoc] at hH; exact hH))

/-- '[]' or '{}'. -/
theorem InvT.empty (h : InvT d n s k p) (hp : p + 1 < n) (hc : d p = 91 ∨ d p = 123) (hc1 : d (p + 1) = 93 ∨ d (p + 1) = 125) : InvF d n s k (p + 2) := by
  have hlo := h.lo
  refine ⟨by omega, by omega, h.fst (by omega), fun d' n' a k0 e hA hn' _ hH => ?_⟩
  have hx0 := hA.at hlo (show p < p + 2 by omega)
  have hx1 := hA.at (show s ≤ p + 1 by omega) (show p + 1 < p + 2 by omega)
  have e1 : a + (p + 1 - s) = a + (p - s) + 1 := by omega
  have e2 : a + (p + 2 - s) = a + (p - s) + 1 + 1 := by omega
  rw [e1] at hx1
  rw [e2] at hn' hH
  refine h.go d' n' a k0 e (hA.le (by omega)) (by omega) (by rw [hx0]; omega) ?_
  exact head_open (by omega) (by rw [hx0]; exact hc) (after_go (by omega) (by omega) (by rw [hx1]; omega) (head_close (by omega) (by rw [hx1]; exact hc1) hH))

/-- A string lies at [q, j). -/
def Str (d : Nat → Int) (n q j : Nat) : Prop := q < n ∧ d q = 34 ∧ qe d (n - (q + 1)) (q + 1) false = some j
theorem Str.bounds {q j : Nat} (h : Str d n q j) : q < j ∧ j ≤ n := by
  have := qe_bounds d _ _ _ _ h.2.2; have := h.1; omega
theorem Str.ee {q j : Nat} (h : Str d n q j) : ee d n q = some j := by
  unfold Qxb6602604a.ee; rw [if_pos h.2.1]; exact h.2.2
theorem Str.move {q j : Nat} (h : Str d n q j) {d' : Nat → Int} {n' a : Nat} (hs : s ≤ q) (hA : Agree d s j d' a) (hn : a + (j - s) ≤ n') : Qxb6602604a.ee d' n' (a + (q - s)) = some (a + (j - s)) := by
  have hb := h.bounds
  have := ee_move (d' := d') (n' := n') (s' := a + (q - s)) h.1 h.ee (fun i hi => by
    have := hA (q - s + i) (by omega)
    rw [show a + (q - s) + i = a + (q - s + i) by omega, this]; congr 1; omega) (by omega) (Or.inl h.2.1)
  rw [this]; congr 1; omega

/-- '{', a key and its colon, which lies at j. -/
theorem InvT.key {j : Nat} (h : InvT d n s k p) (hc : d p = 91 ∨ d p = 123) (hs : Str d n (p + 1) j) (hj : j < n) (h58 : d j = 58) : InvT d n s (k + 1) (j + 1) := by
  have hlo := h.lo
  have hb := hs.bounds
  refine ⟨by omega, by omega, fun h => by omega, fun _ => h.fst (by omega), fun d' n' a k0 e hA hn' hx hH => ?_⟩
  have hx0 := hA.at hlo (show p < j + 1 by omega)
  have hx1 := hA.at (show s ≤ p + 1 by omega) (show p + 1 < j + 1 by omega)
  have hxj := hA.at (show s ≤ j by omega) (show j < j + 1 by omega)
  have hee := hs.move (show s ≤ p + 1 by omega) (hA.le (show j ≤ j + 1 by omega)) (n' := n') (by omega)
  have e1 : a + (p + 1 - s) = a + (p - s) + 1 := by omega
  have e2 : a + (j + 1 - s) = a + (j - s) + 1 := by omega
  rw [e1] at hx1 hee
  rw [e2] at hn' hH
  rw [hs.2.1] at hx1
  refine h.go d' n' a k0 e (hA.le (by omega)) (by omega) (by rw [hx0]; omega) ?_
  refine head_open (by omega) (by rw [hx0]; exact hc) (after_go (by omega) (by omega) (by rw [hx1]; omega) ?_)
  exact head_elem (by omega) (by rw [hx1]; omega) (by rw [hx1]; omega) hee (after_sep (by omega) (by omega) (by rw [hxj, h58]; omega) (by rw [← Nat.add_assoc] at hH; exact hH))

theorem InvT.str {j : Nat} (h : InvT d n s k p) (hs : Str d n p j) : InvF d n s k j := by
  have hlo := h.lo
  have hb := hs.bounds
  have h34 := hs.2.1
  refine ⟨by omega, by omega, h.fst (by omega), fun d' n' a k0 e hA hn' _ hH => ?_⟩
  have hx0 := hA.at hlo (show p < j by omega)
  have hee := hs.move hlo hA (n' := n') (by omega)
  rw [h34] at hx0
  refine h.go d' n' a k0 e (hA.le (by omega)) (by omega) (by rw [hx0]; omega) ?_
  exact head_elem (by omega) (by rw [hx0]; omega) (by rw [hx0]; omega) hee hH

theorem InvT.atom {j : Nat} (h : InvT d n s k p) (hs : Atom d n p j) : InvF d n s k j := by
  have hlo := h.lo
  obtain ⟨h1, h2, h3⟩ := hs
  have hac := h3 p (Nat.le_refl _) h1
  have hn34 : d p ≠ 34 := by unfold ac at hac; omega
  refine ⟨by omega, by omega, h.fst (by unfold ac at hac; omega), fun d' n' a k0 e hA hn' hx hH => ?_⟩
  have hx0 := hA.at hlo h1
  have hdl : DelimAt d' n' (a + (j - s)) := by
    rcases hx with hx | ⟨hb, h0⟩
    · exact hx
    · have := h.top h0
      subst this
      unfold ac at hac; unfold brk at hb; omega
  have hee : ee d' n' (a + (p - s)) = some (a + (j - s)) := by
    unfold ee
    rw [hx0, if_neg hn34]
    congr 1
    refine de_eq (by omega) (by omega) (fun q q1 q2 => ?_) ?_
    · have := hA.at (q := q - a + s) (by omega) (by omega)
      rw [show a + (q - a + s - s) = q by omega] at this
      rw [this]; exact ac_dl (h3 _ (by omega) (by omega))
    · exact hdl
  refine h.go d' n' a k0 e (hA.le (by omega)) (by omega) (by rw [hx0]; unfold ac at hac; omega) ?_
  exact head_elem (by omega) (by rw [hx0]; unfold ac at hac; omega) (by rw [hx0]; unfold ac at hac; omega) hee hH

/-- ',' in an array. -/
theorem InvF.comma (h : InvF d n s (k + 1) p) (hp : p < n) (hc : d p = 44) : InvT d n s (k + 1) (p + 1) := by
  have hlo := h.lo
  refine ⟨by omega, by omega, fun h => by omega, fun _ => h.first, fun d' n' a k0 e hA hn' _ hH => ?_⟩
  have hx0 := hA.at (show s ≤ p by omega) (Nat.lt_succ_self p)
  rw [hc] at hx0
  have e1 : a + (p + 1 - s) = a + (p - s) + 1 := by omega
  rw [e1] at hn' hH
  refine h.go d' n' a k0 e (hA.le (by omega)) (by omega) (Or.inl (Or.inr (by rw [hx0]; rfl))) ?_
  exact after_sep (by omega) (by omega) (by rw [hx0]; omega) hH

/-- ',' in an object, a key and its colon. -/
theorem InvF.commaKey {j : Nat} (h : InvF d n s (k + 1) p) (hc : d p = 44) (hs : Str d n (p + 1) j) (hj : j < n) (h58 : d j = 58) : InvT d n s (k + 1) (j + 1) := by
  have hlo := h.lo
  have hb := hs.bounds
  refine ⟨by omega, by omega, fun h => by omega, fun _ => h.first, fun d' n' a k0 e hA hn' _ hH => ?_⟩
  have hx0 := hA.at (show s ≤ p by omega) (show p < j + 1 by omega)
  have hx1 := hA.at (show s ≤ p + 1 by omega) (show p + 1 < j + 1 by omega)
  have hxj := hA.at (show s ≤ j by omega) (show j < j + 1 by omega)
  have hee := hs.move (show s ≤ p + 1 by omega) (hA.le (show j ≤ j + 1 by omega)) (n' := n') (by omega)
  have e1 : a + (p + 1 - s) = a + (p - s) + 1 := by omega
  have e2 : a + (j + 1 - s) = a + (j - s) + 1 := by omega
  rw [e1] at hx1 hee
  rw [e2] at hn' hH
  rw [hs.2.1] at hx1
  rw [hc] at hx0
  refine h.go d' n' a k0 e (hA.le (by omega)) (by omega) (Or.inl (Or.inr (by rw [hx0]; rfl))) ?_
  refine after_sep (by omega) (by omega) (by rw [hx0]; omega) ?_
  exact head_elem (by omega) (by rw [hx1]; omega) (by rw [hx1]; omega) hee (after_sep (by omega) (by omega) (by rw [hxj, h58]; omega) hH)

theorem InvF.pop (h : InvF d n s (k + 1) p) (hp : p < n) (hc : d p = 93 ∨ d p = 125) : InvF d n s k (p + 1) := by
  have hlo := h.lo
  refine ⟨by omega, by omega, h.first, fun d' n' a k0 e hA hn' _ hH => ?_⟩
  have hx0 := hA.at (show s ≤ p by omega) (Nat.lt_succ_self p)
  have e1 : a + (p + 1 - s) = a + (p - s) + 1 := by omega
  rw [e1] at hn' hH
  refine h.go d' n' a k0 e (hA.le (by omega)) (by omega) (Or.inl (Or.inr (by rw [hx0]; rcases hc with hc | hc <;> rw [hc] <;> rfl))) ?_
  exact after_go (by omega) (by omega) (by rw [hx0]; omega) (head_close (by omega) (by rw [hx0]; exact hc) hH)
end

/-- A complete value lies at [s, e): in whatever text and at whatever depth valueEnd goes past it. -/
structure Value' (d : Nat → Int) (n s e : Nat) : Prop where
  lo : s < e
  hi : e ≤ n
  first : ¬ (d s = 44 ∨ d s = 58)
  go : ∀ d' n' a k0 x, Agree d s e d' a → a + (e - s) ≤ n' → (DelimAt d' n' (a + (e - s)) ∨ brk (d s)) → After d' n' k0 (a + (e - s)) x → Head d' n' k0 a x
theorem InvF.done {d : Nat → Int} {n s p : Nat} (h : InvF d n s 0 p) : Value' d n s p :=
  ⟨h.lo, h.hi, h.first, fun d' n' a k0 x hA hn hx hH => h.go d' n' a k0 x hA hn (hx.elim Or.inl fun hb => Or.inr ⟨hb, rfl⟩) hH⟩

/-- The value alone: valueEnd comes to its end. -/
theorem Value'.here {d d' : Nat → Int} {n n' s e a : Nat} (h : Value' d n s e) (hA : Agree d s e d' a) (hn : a + (e - s) ≤ n') (hx : DelimAt d' n' (a + (e - s)) ∨ brk (d s)) : Head d' n' 0 a (a + (e - s)) :=
  h.go d' n' a 0 _ hA hn hx after_zero
end Go.Proofs.Qxb6602604a
