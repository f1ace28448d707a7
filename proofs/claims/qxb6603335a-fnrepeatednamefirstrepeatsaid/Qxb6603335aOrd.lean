import Derived.Test.Qxb6603335aRows
import Derived.WalkKit
import Derived.WalkSpells
import Derived.WalkLawsBesides
namespace Go.Proofs.Qxb6603335a

/-! ### Lexicographic order of names -/
def lx : List Int → List Int → Int
  | [], [] => 0
  | [], _ :: _ => -1
  | _ :: _, [] => 1
  | x :: xs, y :: ys => if x < y then -1 else if y < x then 1 else lx xs ys
theorem lx_vals : ∀ a b : List Int, lx a b = -1 ∨ lx a b = 0 ∨ lx a b = 1
  | [], [] => by simp [lx]
  | [], _ :: _ => by simp [lx]
  | _ :: _, [] => by simp [lx]
  | x :: xs, y :: ys => by
    simp only [lx]
    split
    · left; rfl
    · split
      · right; right; rfl
      · exact lx_vals xs ys
theorem lx_self : ∀ a : List Int, lx a a = 0
  | [] => rfl
  | x :: xs => by simp only [lx]; rw [if_neg (by omega), if_neg (by omega)]; exact lx_self xs
theorem lx_eq : ∀ {a b : List Int}, lx a b = 0 → a = b
  | [], [], _ => rfl
  | [], _ :: _, h => by simp [lx] at h
  | _ :: _, [], h => by simp [lx] at h
  | x :: xs, y :: ys, h => by
    simp only [lx] at h
    split at h
    · omega
    · split at h
      · omega
      · have := lx_eq h
        rw [this, show x = y by omega]
theorem lx_anti : ∀ a b : List Int, lx b a = - lx a b
  | [], [] => rfl
  | [], _ :: _ => rfl
  | _ :: _, [] => rfl
  | x :: xs, y :: ys => by
    simp only [lx]
    by_cases h1 : x < y
    · rw [if_pos h1, if_neg (by omega), if_pos h1]; rfl
    · by_cases h2 : y < x
      · rw [if_pos h2, if_neg h1, if_pos h2]
      · rw [if_neg h1, if_neg h2, if_neg h2, if_neg h1]; exact lx_anti xs ys
theorem lx_trans : ∀ {a b c : List Int}, lx a b < 0 → lx b c < 0 → lx a c < 0
  | [], [], _, h, _ => by simp [lx] at h
  | [], _ :: _, [], _, h => by simp [lx] at h
  | [], _ :: _, _ :: _, _, _ => by simp [lx]
  | _ :: _, [], _, h, _ => by simp [lx] at h
  | _ :: _, _ :: _, [], _, h => by simp [lx] at h
  | x :: xs, y :: ys, z :: zs, h1, h2 => by
    simp only [lx] at h1 h2 ⊢
    by_cases a1 : x < y
    · by_cases b1 : y < z
      · rw [if_pos (by omega)]; omega
      · rw [if_neg b1] at h2
        by_cases b2 : z < y
        · rw [if_pos b2] at h2; omega
        · rw [if_pos (by omega)]; omega
    · rw [if_neg a1] at h1
      by_cases a2 : y < x
      · rw [if_pos a2] at h1; omega
      · rw [if_neg a2] at h1
        by_cases b1 : y < z
        · rw [if_pos (by omega)]; omega
        · rw [if_neg b1] at h2
          by_cases b2 : z < y
          · rw [if_pos b2] at h2; omega
          · rw [if_neg b2] at h2
            rw [if_neg (by omega), if_neg (by omega)]
            exact lx_trans h1 h2

/-- By name, then by place. -/
def lt2 (N : Nat → List Int) (a b : Nat) : Prop := lx (N a) (N b) < 0 ∨ (N a = N b ∧ a < b)
theorem lt2_trans {N : Nat → List Int} {a b c : Nat} (h1 : lt2 N a b) (h2 : lt2 N b c) : lt2 N a c := by
  rcases h1 with h1 | ⟨h1, h1'⟩
  · rcases h2 with h2 | ⟨h2, _⟩
    · exact Or.inl (lx_trans h1 h2)
    · left; rw [← h2]; exact h1
  · rcases h2 with h2 | ⟨h2, h2'⟩
    · left; rw [h1]; exact h2
    · right; exact ⟨h1.trans h2, by omega⟩
theorem lt2_irrefl {N : Nat → List Int} {a : Nat} (h : lt2 N a a) : False := by
  rcases h with h | ⟨_, h⟩
  · rw [lx_self] at h; omega
  · omega

/-! ### Runs -/
structure SRun (N : Nat → List Int) (s : Nat → Nat) (a b : Nat) : Prop where
  rng : ∀ k, a ≤ k → k < b → a ≤ s k ∧ s k < b
  srt : ∀ k, a ≤ k → k + 1 < b → lt2 N (s k) (s (k + 1))
  all : ∀ v, a ≤ v → v < b → ∃ k, a ≤ k ∧ k < b ∧ s k = v
theorem SRun.congr {N : Nat → List Int} {s t : Nat → Nat} {a b : Nat} (h : SRun N s a b) (e : ∀ k, a ≤ k → k < b → t k = s k) : SRun N t a b :=
  ⟨fun k h1 h2 => by rw [e k h1 h2]; exact h.rng k h1 h2, fun k h1 h2 => by rw [e k h1 (by omega), e (k + 1) (by omega) h2]; exact h.srt k h1 h2,
   fun v h1 h2 => by obtain ⟨k, k1, k2, k3⟩ := h.all v h1 h2; exact ⟨k, k1, k2, by rw [e k k1 k2]; exact k3⟩⟩
theorem SRun.lt {N : Nat → List Int} {s : Nat → Nat} {a b : Nat} (h : SRun N s a b) {k : Nat} (h1 : a ≤ k) : ∀ d, k + d + 1 < b → lt2 N (s k) (s (k + d + 1))
  | 0, h2 => h.srt k h1 h2
  | d + 1, h2 => lt2_trans (h.lt h1 d (by omega)) (h.srt (k + d + 1) (by omega) h2)
theorem SRun.lt' {N : Nat → List Int} {s : Nat → Nat} {a b k l : Nat} (h : SRun N s a b) (h1 : a ≤ k) (h2 : k < l) (h3 : l < b) : lt2 N (s k) (s l) := by
  have := h.lt h1 (l - k - 1) (by omega)
  rwa [show k + (l - k - 1) + 1 = l by omega] at this
theorem srun_id (N : Nat → List Int) (c : Nat) : SRun N (fun i => i) c (c + 1) :=
  ⟨fun k h1 h2 => ⟨h1, h2⟩, fun k h1 h2 => by omega, fun v h1 h2 => ⟨v, h1, h2, rfl⟩⟩
theorem srun_nil (N : Nat → List Int) (s : Nat → Nat) (c : Nat) : SRun N s c c :=
  ⟨fun k h1 h2 => by omega, fun k h1 h2 => by omega, fun v h1 h2 => by omega⟩

/-- The merge of two runs, at places i (left), j (right), k (out). -/
structure Mg (N : Nat → List Int) (s t0 t : Nat → Nat) (lo mid hi i j k : Nat) : Prop where
  lm : lo ≤ i
  im : i ≤ mid
  mj : mid ≤ j
  jh : j ≤ hi
  cnt : k = i + (j - mid)
  rng : ∀ q, lo ≤ q → q < k → lo ≤ t q ∧ t q < hi
  srt : ∀ q, lo ≤ q → q + 1 < k → lt2 N (t q) (t (q + 1))
  nxl : lo < k → i < mid → lt2 N (t (k - 1)) (s i)
  nxr : lo < k → j < hi → lt2 N (t (k - 1)) (s j)
  allL : ∀ q, lo ≤ q → q < i → ∃ p, lo ≤ p ∧ p < k ∧ t p = s q
  allR : ∀ q, mid ≤ q → q < j → ∃ p, lo ≤ p ∧ p < k ∧ t p = s q
  out : ∀ q, q < lo ∨ k ≤ q → t q = t0 q

def put (t : Nat → Nat) (k v : Nat) : Nat → Nat := fun q => if q = k then v else t q
theorem put_same (t : Nat → Nat) (k v : Nat) : put t k v k = v := by simp [put]
theorem put_other {t : Nat → Nat} {k v q : Nat} (h : q ≠ k) : put t k v q = t q := by simp [put, h]

section
variable {N : Nat → List Int} {s t0 t : Nat → Nat} {lo mid hi i j k : Nat}
theorem Mg.start (h1 : lo ≤ mid) (h2 : mid ≤ hi) : Mg N s t0 t0 lo mid hi lo mid lo :=
  ⟨Nat.le_refl _, h1, Nat.le_refl _, h2, by omega, fun q h1 h2 => by omega, fun q h1 h2 => by omega, fun h => by omega, fun h => by omega, fun q h1 h2 => by omega, fun q h1 h2 => by omega, fun _ _ => rfl⟩
theorem Mg.left (h : Mg N s t0 t lo mid hi i j k) (L : SRun N s lo mid) (R : SRun N s mid hi) (hi' : i < mid) (hc : j < hi → lx (N (s i)) (N (s j)) ≤ 0) : Mg N s t0 (put t k (s i)) lo mid hi (i + 1) j (k + 1) := by
  have hlm := h.lm; have hmj := h.mj; have hcnt := h.cnt; have hjh := h.jh
  have hr := L.rng i h.lm hi'
  refine ⟨by omega, by omega, h.mj, h.jh, by omega, fun q q1 q2 => ?_, fun q q1 q2 => ?_, fun _ q2 => ?_, fun _ q2 => ?_, fun q q1 q2 => ?_, fun q q1 q2 => ?_, fun q q1 => ?_⟩
  · by_cases e : q = k
    · rw [e, put_same]; omega
    · rw [put_other e]; exact h.rng q q1 (by omega)
  · by_cases e : q + 1 = k
    · rw [e, put_same, put_other (by omega)]
      have := h.nxl (by omega) hi'
      rwa [show k - 1 = q by omega] at this
    · rw [put_other e, put_other (by omega)]; exact h.srt q q1 (by omega)
  · rw [show k + 1 - 1 = k by omega, put_same]; exact L.srt i h.lm q2
  · rw [show k + 1 - 1 = k by omega, put_same]
    have hrj := R.rng j h.mj q2
    have := hc q2
    rcases lx_vals (N (s i)) (N (s j)) with h1 | h1 | h1
    · left; omega
    · right; exact ⟨lx_eq h1, by omega⟩
    · omega
  · by_cases e : q = i
    · exact ⟨k, by omega, by omega, by rw [e, put_same]⟩
    · obtain ⟨p, p1, p2, p3⟩ := h.allL q q1 (by omega); exact ⟨p, p1, by omega, by rw [put_other (by omega)]; exact p3⟩
  · obtain ⟨p, p1, p2, p3⟩ := h.allR q q1 q2; exact ⟨p, p1, by omega, by rw [put_other (by omega)]; exact p3⟩
  · rw [put_other (by omega)]; exact h.out q (by omega)
theorem Mg.right (h : Mg N s t0 t lo mid hi i j k) (R : SRun N s mid hi) (hj' : j < hi) (hc : i < mid → 0 < lx (N (s i)) (N (s j))) : Mg N s t0 (put t k (s j)) lo mid hi i (j + 1) (k + 1) := by
  have hlm := h.lm; have hmj := h.mj; have hcnt := h.cnt; have him := h.im
  have hr := R.rng j h.mj hj'
  refine ⟨h.lm, h.im, by omega, by omega, by omega, fun q q1 q2 => ?_, fun q q1 q2 => ?_, fun _ q2 => ?_, fun _ q2 => ?_, fun q q1 q2 => ?_, fun q q1 q2 => ?_, fun q q1 => ?_⟩
  · by_cases e : q = k
    · rw [e, put_same]; omega
    · rw [put_other e]; exact h.rng q q1 (by omega)
  · by_cases e : q + 1 = k
    · rw [e, put_same, put_other (by omega)]
      have := h.nxr (by omega) hj'
      rwa [show k - 1 = q by omega] at this
    · rw [put_other e, put_other (by omega)]; exact h.srt q q1 (by omega)
  · rw [show k + 1 - 1 = k by omega, put_same]
    left
    have := hc q2
    rw [lx_anti]; omega
  · rw [show k + 1 - 1 = k by omega, put_same]; exact R.srt j h.mj q2
  · obtain ⟨p, p1, p2, p3⟩ := h.allL q q1 q2; exact ⟨p, p1, by omega, by rw [put_other (by omega)]; exact p3⟩
  · by_cases e : q = j
    · exact ⟨k, by omega, by omega, by rw [e, put_same]⟩
    · obtain ⟨p, p1, p2, p3⟩ := h.allR q q1 (by omega); exact ⟨p, p1, by omega, by rw [put_other (by omega)]; exact p3⟩
  · rw [put_other (by omega)]; exact h.out q (by omega)
theorem Mg.done (h : Mg N s t0 t lo mid hi i j hi) (L : SRun N s lo mid) (R : SRun N s mid hi) : SRun N t lo hi := by
  have hcnt := h.cnt; have him := h.im; have hjh := h.jh; have hmj := h.mj; have hlm := h.lm
  refine ⟨h.rng, h.srt, fun v v1 v2 => ?_⟩
  by_cases hv : v < mid
  · obtain ⟨q, q1, q2, q3⟩ := L.all v v1 hv
    obtain ⟨p, p1, p2, p3⟩ := h.allL q q1 (by omega)
    exact ⟨p, p1, p2, by rw [p3, q3]⟩
  · obtain ⟨q, q1, q2, q3⟩ := R.all v (by omega) v2
    obtain ⟨p, p1, p2, p3⟩ := h.allR q q1 (by omega)
    exact ⟨p, p1, p2, by rw [p3, q3]⟩
end

/-- Every block of width W is a run. -/
def Blocks (N : Nat → List Int) (s : Nat → Nat) (W n : Nat) : Prop := ∀ c, c * W < n → SRun N s (c * W) (min (c * W + W) n)
theorem blocks_id (N : Nat → List Int) (n : Nat) : Blocks N (fun i => i) 1 n := fun c hc => by
  rw [Nat.mul_one] at hc ⊢
  rw [show min (c + 1) n = c + 1 by omega]; exact srun_id N c
theorem blocks_all {N : Nat → List Int} {s : Nat → Nat} {W n : Nat} (h : Blocks N s W n) (hW : n ≤ W) (hn : 0 < n) : SRun N s 0 n := by
  have := h 0 (by omega)
  rwa [Nat.zero_mul, Nat.zero_add, show min W n = n by omega] at this

/-! ### The first repeat -/
def isRep (N : Nat → List Int) (j : Nat) : Prop := ∃ i, i < j ∧ N i = N j
def First (N : Nat → List Int) (n : Nat) : Option Nat → Prop
  | none => ∀ j, j < n → ¬ isRep N j
  | some j => j < n ∧ isRep N j ∧ ∀ i, i < j → ¬ isRep N i
theorem First.uniq {N : Nat → List Int} {n : Nat} {a b : Option Nat} (h1 : First N n a) (h2 : First N n b) : a = b := by
  cases a with
  | none => cases b with
    | none => rfl
    | some j => exact absurd h2.2.1 (h1 j h2.1)
  | some i => cases b with
    | none => exact absurd h1.2.1 (h2 i h1.1)
    | some j =>
      rcases Nat.lt_trichotomy i j with h | h | h
      · exact absurd h1.2.1 (h2.2.2 i h)
      · rw [h]
      · exact absurd h2.2.1 (h1.2.2 j h)

/-- What the scan over the sorted places has found behind k places. -/
def Best (N : Nat → List Int) (s : Nat → Nat) (k : Nat) : Option Nat → Prop
  | none => ∀ q, 1 ≤ q → q < k → N (s (q - 1)) ≠ N (s q)
  | some b => (∃ q, 1 ≤ q ∧ q < k ∧ s q = b ∧ N (s (q - 1)) = N (s q)) ∧ ∀ q, 1 ≤ q → q < k → N (s (q - 1)) = N (s q) → b ≤ s q
theorem Best.first {N : Nat → List Int} {s : Nat → Nat} {n : Nat} {r : Option Nat} (h : Best N s n r) (S : SRun N s 0 n) : First N n r := by
  -- a repeat stands right behind one of its equals
  have key : ∀ j, j < n → isRep N j → ∃ q, 1 ≤ q ∧ q < n ∧ s q = j ∧ N (s (q - 1)) = N (s q) := by
    rintro j hj ⟨i, hij, e⟩
    obtain ⟨q, _, q2, q3⟩ := S.all j (by omega) hj
    obtain ⟨p, _, p2, p3⟩ := S.all i (by omega) (by omega)
    have hij2 : lt2 N (s p) (s q) := by rw [p3, q3]; exact Or.inr ⟨e, hij⟩
    have hpq : p < q := by
      rcases Nat.lt_trichotomy p q with h | h | h
      · exact h
      · subst h; exact absurd hij2 lt2_irrefl
      · exact absurd (lt2_trans hij2 (S.lt' (by omega) h p2)) lt2_irrefl
    refine ⟨q, by omega, q2, q3, ?_⟩
    have h1 : lt2 N (s (q - 1)) (s q) := S.lt' (by omega) (by omega) q2
    have h2 : p = q - 1 ∨ lt2 N (s p) (s (q - 1)) := by
      by_cases hp : p = q - 1
      · exact Or.inl hp
      · exact Or.inr (S.lt' (by omega) (by omega) (by omega))
    rcases h2 with h2 | h2
    · rw [← h2, p3, q3]; exact e
    · rcases h1 with h1 | ⟨h1, _⟩
      · rcases h2 with h2 | ⟨h2, _⟩
        · have := lx_trans h2 h1; rw [p3, q3, e, lx_self] at this; omega
        · rw [← h2, p3, q3, e, lx_self] at h1; omega
      · exact h1
  have back : ∀ q, 1 ≤ q → q < n → N (s (q - 1)) = N (s q) → isRep N (s q) := fun q q1 q2 e => by
    refine ⟨s (q - 1), ?_, e⟩
    have h1 : lt2 N (s (q - 1)) (s q) := S.lt' (by omega) (by omega) q2
    rcases h1 with h1 | ⟨_, h1⟩
    · rw [e, lx_self] at h1; omega
    · exact h1
  cases r with
  | none =>
    intro j hj hr
    obtain ⟨q, q1, q2, _, q4⟩ := key j hj hr
    exact h q q1 q2 q4
  | some b =>
    obtain ⟨⟨q, q1, q2, q3, q4⟩, hmin⟩ := h
    refine ⟨by rw [← q3]; exact (S.rng q (by omega) q2).2, by rw [← q3]; exact back q q1 q2 q4, fun i hi hr => ?_⟩
    obtain ⟨p, p1, p2, p3, p4⟩ := key i (by have := (S.rng q (by omega) q2).2; omega) hr
    have := hmin p p1 p2 p4
    omega

/-! ### A pass -/
def Pass (N : Nat → List Int) (t : Nat → Nat) (W n c : Nat) : Prop := ∀ c', c' < c → c' * (2 * W) < n → SRun N t (c' * (2 * W)) (min (c' * (2 * W) + 2 * W) n)
theorem pass_start (N : Nat → List Int) (t : Nat → Nat) (W n : Nat) : Pass N t W n 0 := fun c' h => by omega
theorem Pass.step {N : Nat → List Int} {t t' : Nat → Nat} {W n c : Nat} (h : Pass N t W n c) (hr : SRun N t' (c * (2 * W)) (min (c * (2 * W) + 2 * W) n)) (ho : ∀ q, q < c * (2 * W) → t' q = t q) : Pass N t' W n (c + 1) := by
  intro c' h1 h2
  by_cases e : c' = c
  · subst e; exact hr
  · have hle : c' * (2 * W) + 2 * W ≤ c * (2 * W) := by
      have := Nat.mul_le_mul_right (2 * W) (show c' + 1 ≤ c by omega)
      rw [Nat.add_mul, Nat.one_mul] at this; exact this
    exact (h c' (by omega) h2).congr fun k k1 k2 => ho k (by omega)
theorem Pass.done {N : Nat → List Int} {t : Nat → Nat} {W n c : Nat} (h : Pass N t W n c) (hn : n ≤ c * (2 * W)) : Blocks N t (2 * W) n := by
  intro c' h1
  refine h c' ?_ h1
  rcases Nat.lt_or_ge c' c with h2 | h2
  · exact h2
  · have := Nat.mul_le_mul_right (2 * W) h2; omega
theorem Blocks.left {N : Nat → List Int} {s : Nat → Nat} {W n c : Nat} (h : Blocks N s W n) (hc : c * (2 * W) < n) : SRun N s (c * (2 * W)) (min (c * (2 * W) + W) n) := by
  have e : c * (2 * W) = (2 * c) * W := by rw [Nat.mul_comm 2 c, Nat.mul_assoc]
  rw [e] at hc ⊢
  exact h (2 * c) hc
theorem Blocks.right {N : Nat → List Int} {s : Nat → Nat} {W n c : Nat} (h : Blocks N s W n) : SRun N s (min (c * (2 * W) + W) n) (min (c * (2 * W) + 2 * W) n) := by
  have e : c * (2 * W) + W = (2 * c + 1) * W := by rw [Nat.add_mul, Nat.one_mul, Nat.mul_comm 2 c, Nat.mul_assoc]
  by_cases hlt : c * (2 * W) + W < n
  · rw [show min (c * (2 * W) + W) n = c * (2 * W) + W by omega]
    have := h (2 * c + 1) (by rw [← e]; exact hlt)
    rw [← e] at this
    rwa [show c * (2 * W) + W + W = c * (2 * W) + 2 * W by omega] at this
  · rw [show min (c * (2 * W) + W) n = n by omega, show min (c * (2 * W) + 2 * W) n = n by omega]
    exact srun_nil _ _ _
end Go.Proofs.Qxb6603335a
