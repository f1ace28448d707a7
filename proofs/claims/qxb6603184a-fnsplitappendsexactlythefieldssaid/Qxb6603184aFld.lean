import Derived.Test.Qxb6603184aName
namespace Go.Proofs.Qxb6603184a
open Go.RowKit

theorem Try.info9 : (Try.prog.info? 9).map (fun i => (i.zero, i.size, i.bytes)) = some (some (.string ByteArray.empty), 1, 16) := by kernel_rfl

/-! ### The fields of a line, plainly -/
/-- A space or a tab. -/
def spB (s : ByteArray) (i : Nat) : Bool := (((s.get! i).toNat : Nat) : Int) == 32 || (((s.get! i).toNat : Nat) : Int) == 9
theorem spB_yes {s : ByteArray} {i : Nat} (hi : i < s.size) (h : spB s i = true) : (((s[i]'hi).toNat : Nat) : Int) = 32 ∨ (((s[i]'hi).toNat : Nat) : Int) = 9 := by
  unfold spB at h; rw [get_of s i hi] at h; simpa using h
theorem spB_no {s : ByteArray} {i : Nat} (hi : i < s.size) (h : spB s i = false) : ((((s[i]'hi).toNat : Nat) : Int) == 32) = false ∧ ((((s[i]'hi).toNat : Nat) : Int) == 9) = false := by
  unfold spB at h; rw [get_of s i hi] at h; simpa using h

/-- The fields from i on, k bytes being left; 'some a': a field is open since a. -/
def fl (s : ByteArray) : Nat → Nat → Option Nat → List ByteArray
  | 0, _, none => []
  | 0, i, some a => [s.extract a i]
  | k + 1, i, none => if spB s i then fl s k (i + 1) none else fl s k (i + 1) (some i)
  | k + 1, i, some a => if spB s i then s.extract a i :: fl s k (i + 1) none else fl s k (i + 1) (some a)
def fields (s : ByteArray) : List ByteArray := fl s s.size 0 none

section
variable {s : ByteArray} {n i a : Nat}
theorem fl_end : fl s (n - n) n none = [] := by simp [fl]
theorem fl_last : fl s (n - n) n (some a) = [s.extract a n] := by simp [fl]
theorem fl_skip (h : i < n) (hs : spB s i = true) : fl s (n - i) i none = fl s (n - (i + 1)) (i + 1) none := by
  rw [show n - i = (n - (i + 1)) + 1 by omega]; simp [fl, hs]
theorem fl_open (h : i < n) (hs : spB s i = false) : fl s (n - i) i none = fl s (n - (i + 1)) (i + 1) (some i) := by
  rw [show n - i = (n - (i + 1)) + 1 by omega]; simp [fl, hs]
theorem fl_close (h : i < n) (hs : spB s i = true) : fl s (n - i) i (some a) = s.extract a i :: fl s (n - (i + 1)) (i + 1) none := by
  rw [show n - i = (n - (i + 1)) + 1 by omega]; simp [fl, hs]
theorem fl_go (h : i < n) (hs : spB s i = false) : fl s (n - i) i (some a) = fl s (n - (i + 1)) (i + 1) (some a) := by
  rw [show n - i = (n - (i + 1)) + 1 by omega]; simp [fl, hs]
end

/-! ### Rows of strings -/
def strs (l : List ByteArray) : List Go.Value := l.map Go.Value.string
theorem length_strs (l : List ByteArray) : (strs l).length = l.length := by simp [strs]
theorem strs_one (l : List ByteArray) : ∀ v ∈ strs l, v.oneCell' = true := by
  intro v hv
  simp [strs] at hv
  obtain ⟨i, _, rfl⟩ := hv
  rfl
theorem strs_append (l m : List ByteArray) : strs (l ++ m) = strs l ++ strs m := by simp [strs]
theorem strs_get {l : List ByteArray} {j : Nat} (hj : j < l.length) : (strs l)[j]? = some (.string l[j]) := by simp [strs, hj]

/-- v, of k strings, owns the strings xs. -/
def SO (B : Nat) (w : World) (v : Go.Value) (xs : List ByteArray) : Prop := w.ownsRow B 9 1 v xs.length (strs xs)
theorem SO.shape {B : Nat} {w : World} {v : Go.Value} {xs : List ByteArray} (h : SO B w v xs) : (v = .slice none 0 0 ∧ xs = []) ∨ ∃ g cp, v = .slice (some ⟨g, 0, none⟩) xs.length cp ∧ xs.length ≤ cp ∧ B ≤ g := by
  rcases h.2 with ⟨h1, h2⟩ | ⟨g, cp, _, h1, hg, _, h2, _⟩
  · exact Or.inl ⟨h1, List.eq_nil_of_length_eq_zero h2⟩
  · exact Or.inr ⟨g, cp, h1, h2, hg⟩
theorem SO.nil (B : Nat) (w : World) : SO B w (.slice none 0 0) [] := World.ownsRow_nil _ _ _ _
theorem SO.cell {B : Nat} {w : World} {g cp : Nat} {xs : List ByteArray} (h : SO B w (.slice (some ⟨g, 0, none⟩) xs.length cp) xs) (j : Nat) (hj : j < xs.length) : w.cell? ⟨g, j, none⟩ = some (.string xs[j]) := by
  rw [World.ownsRow.cellAt h j (by omega)]; exact strs_get hj
theorem SO.alloc {B : Nat} {w : World} {v : Go.Value} {xs : List ByteArray} (h : SO B w v xs) (o : Obj) : SO B (w.alloc o) v xs := World.ownsRow.alloc h o

/-- 'out = append(out, x)', out the call's own, whatever its room. -/
theorem wpl_spush {w w0 : World} {ops : Array Oper} {rest : List Oper} {o : Oper} {a : Act} {Q : Exit → Act → World → Prop}
    (hg : o.guard = none) (s x : Operand) (hop : o.op = Op.call { callee := Callee.builtin Builtin.append, args := #[s, x], argTypes := #[22, 22] })
    (B : Nat) (v : Go.Value) (xs : List ByteArray) (hs : a.eval s = v) (hown : SO B w v xs) (c : ByteArray) (ad : Addr) (hx : a.eval x = .slice (some ad) 1 1) (hcell : w.cell? ad = some (.string c))
    (hk : xs.length ≤ 16777216) (hB : B ≤ w.heap.size) (hb : Below B w0 w)
    (hK : ∀ g cp w', Hid (SO B w' (.slice (some ⟨g, 0, none⟩) (xs.length + 1) cp) (xs ++ [c])) → Hid (Below B w0 w') →
      wpList Try.prog ops Q rest (a.put o.dst (.slice (some ⟨g, 0, none⟩) (xs.length + 1) cp)) w') :
    wpList Try.prog ops Q (o :: rest) a w := by
  obtain ⟨i0, hi, hz0, hz1, hz2⟩ := info_parts Try.info9
  refine wpList_append_own w hg s x 22 hop B 9 i0 (.string ByteArray.empty) 1 16 Try.underlying22 hi hz0 hz1 hz2 rfl (by omega) v xs.length (strs xs) hs hown ad 1 1 (strs [c]) hx (by simp [strs]) ?_ (strs_one _) (by unfold maxLen; omega) (by omega) hB ?_
  · intro j u hu
    match j, hu with
    | 0, hu => simp [strs] at hu; subst hu; simpa [Addr.add] using hcell
  · intro v' w' hown' hgrow _
    rw [← strs_append] at hown'
    have hst : SO B w' v' (xs ++ [c]) := by unfold SO; rw [List.length_append]; exact hown'
    have hbw : Below B w0 w' := hb.grown hgrow hB (fun q hq => (World.ownsRow.lt hown q hq).1)
    rcases hst.shape with ⟨_, h0⟩ | ⟨g, cp, rfl, hle, _⟩
    · simp at h0
    · have e : (xs ++ [c]).length = xs.length + 1 := by simp
      rw [e] at hst ⊢
      exact hK g cp w' hst hbw

/-- A start that is open or not, as the Go text tells it. -/
def optI : Option Nat → Int
  | none => -1
  | some r => r

set_option maxHeartbeats 1000000 in
theorem zzFields_any (s : ByteArray) (w : World) (hn : s.size ≤ 1048576) :
    Calls Try.prog 11 #[.string s] w fun e w' => (∃ v, e = .returned v ∧ SO w.heap.size w' v (fields s)) ∧ Below w.heap.size w w' := by
  go_enter Try.func11, Try.ntmps11
  go_wp2
  go_loopw [3, 4, 5] (fun v t i wr => ∃ (p : Nat) (st : Option Nat) (xs : List ByteArray), p ≤ s.size ∧ i = .int .i64 (p : Int) ∧ t = .int .i64 (optI st) ∧ xs.length ≤ p ∧ (∀ a, st = some a → a < p ∧ xs.length < p) ∧ Hid (SO w.heap.size wr v xs) ∧ Hid (Below w.heap.size w wr) ∧ Hid (xs ++ fl s (s.size - p) p st = fields s)) (fun _ _ i _ => s.size - (intOf i).toNat)
  case atStart => exact ⟨0, none, [], Nat.zero_le _, rfl, rfl, Nat.le_refl _, (fun a h => by cases h), SO.nil _ _, Below.refl _ _, rfl⟩
  case round =>
    obtain ⟨p, st, xs, hp, rfl, rfl, hxl, hst, hso, hbw, hfl⟩ := hrel
    have hsz := hbw.out.size
    have HST : Hid (∀ a, st = some a → a < p ∧ xs.length < p) := hst
    clear hst
    by_cases hlt : p < s.size
    · cases hsp : spB s p with
      | true =>
        have h2 := spB_yes hlt hsp
        cases st with
        | none =>
          have HN : Hid (xs ++ fl s (s.size - (p + 1)) (p + 1) none = fields s) := by have := hfl.out; rw [fl_skip hlt hsp] at this; exact this
          rw [show optI none = -1 from rfl]
          clear hsp hfl
          rcases h2 with h2 | h2
          · have e1 : ((((s[p]'hlt).toNat : Nat) : Int) == 32) = true := by rw [beq_iff_eq]; exact h2
            clear h2
            go_wp2
            go_roundw
            case rel => exact ⟨p + 1, none, xs, by omega, by go_num, rfl, by omega, (fun a h => by cases h), hso, hbw, HN⟩
            case measure => simp [intOf]; omega
          · have e1 : ((((s[p]'hlt).toNat : Nat) : Int) == 32) = false := by rw [beq_eq_false_iff_ne]; omega
            have e2 : ((((s[p]'hlt).toNat : Nat) : Int) == 9) = true := by rw [beq_iff_eq]; exact h2
            clear h2
            go_wp2
            go_roundw
            case rel => exact ⟨p + 1, none, xs, by omega, by go_num, rfl, by omega, (fun a h => by cases h), hso, hbw, HN⟩
            case measure => simp [intOf]; omega
        | some a =>
          obtain ⟨ha, hxp⟩ := HST.out a rfl
          have HN : Hid ((xs ++ [s.extract a p]) ++ fl s (s.size - (p + 1)) (p + 1) none = fields s) := by
            have := hfl.out; rw [fl_close hlt hsp] at this
            show _ = _
            rw [List.append_assoc]; exact this
          rw [show optI (some a) = (a : Int) from rfl]
          clear hsp hfl HST
          rcases h2 with h2 | h2
          · have e1 : ((((s[p]'hlt).toNat : Nat) : Int) == 32) = true := by rw [beq_iff_eq]; exact h2
            clear h2
            go_wp2_with (at_builtin; refine wpl_spush (w0 := w) rfl (.tmp 24) (.tmp 29) rfl w.heap.size _ xs rfl (hso.out.alloc _) (s.extract a p) ⟨wr.heap.size, 0, none⟩ rfl (by simp) (by omega) (by simp; omega) (hbw.out.alloc hsz _) ?_; intro g cp w1 hso1 hb1)
            go_roundw
            case rel => exact ⟨p + 1, none, xs ++ [s.extract a p], by omega, by go_num, rfl, by simp; omega, (fun a h => by cases h), hso1, hb1, HN⟩
            case measure => simp [intOf]; omega
          · have e1 : ((((s[p]'hlt).toNat : Nat) : Int) == 32) = false := by rw [beq_eq_false_iff_ne]; omega
            have e2 : ((((s[p]'hlt).toNat : Nat) : Int) == 9) = true := by rw [beq_iff_eq]; exact h2
            clear h2
            go_wp2_with (at_builtin; refine wpl_spush (w0 := w) rfl (.tmp 24) (.tmp 29) rfl w.heap.size _ xs rfl (hso.out.alloc _) (s.extract a p) ⟨wr.heap.size, 0, none⟩ rfl (by simp) (by omega) (by simp; omega) (hbw.out.alloc hsz _) ?_; intro g cp w1 hso1 hb1)
            go_roundw
            case rel => exact ⟨p + 1, none, xs ++ [s.extract a p], by omega, by go_num, rfl, by simp; omega, (fun a h => by cases h), hso1, hb1, HN⟩
            case measure => simp [intOf]; omega
      | false =>
        obtain ⟨e1, e2⟩ := spB_no hlt hsp
        cases st with
        | none =>
          have HN : Hid (xs ++ fl s (s.size - (p + 1)) (p + 1) (some p) = fields s) := by have := hfl.out; rw [fl_open hlt hsp] at this; exact this
          rw [show optI none = -1 from rfl]
          clear hsp hfl
          go_wp2
          go_roundw
          case rel => exact ⟨p + 1, some p, xs, by omega, by go_num, rfl, by omega, (fun a h => by cases h; omega), hso, hbw, HN⟩
          case measure => simp [intOf]; omega
        | some a =>
          obtain ⟨ha, hxp⟩ := HST.out a rfl
          have HN : Hid (xs ++ fl s (s.size - (p + 1)) (p + 1) (some a) = fields s) := by have := hfl.out; rw [fl_go hlt hsp] at this; exact this
          rw [show optI (some a) = (a : Int) from rfl]
          clear hsp hfl HST
          go_wp2
          go_roundw
          case rel => exact ⟨p + 1, some a, xs, by omega, by go_num, rfl, by omega, (fun a h => by cases h; omega), hso, hbw, HN⟩
          case measure => simp [intOf]; omega
    · obtain rfl : p = s.size := by omega
      cases st with
      | none =>
        have HN : Hid (xs = fields s) := by have := hfl.out; rw [fl_end] at this; show xs = fields s; simpa using this
        rw [show optI none = -1 from rfl]
        clear hfl
        go_wp2
        go_ret
        exact ⟨⟨_, rfl, by rw [← HN.out]; exact hso.out⟩, hbw.out⟩
      | some a =>
        obtain ⟨ha, hxp⟩ := HST.out a rfl
        have HN : Hid (xs ++ [s.extract a s.size] = fields s) := by have := hfl.out; rw [fl_last] at this; exact this
        rw [show optI (some a) = (a : Int) from rfl]
        clear hfl HST
        go_wp2_with (at_builtin; refine wpl_spush (w0 := w) rfl (.tmp 36) (.tmp 40) rfl w.heap.size _ xs rfl (hso.out.alloc _) (s.extract a s.size) ⟨wr.heap.size, 0, none⟩ rfl (by simp) (by omega) (by simp; omega) (hbw.out.alloc hsz _) ?_; intro g cp w1 hso1 hb1)
        go_ret
        exact ⟨⟨_, rfl, by rw [← HN.out]; exact hso1.out⟩, hb1.out⟩

/-! ### split -/
/-- What split keeps of the slice u that came in, from the world w on: its strings; and every other block. v: what it has become. -/
structure Sp (B : Nat) (w : World) (u : Go.Value) (ys : List ByteArray) (wr : World) (v : Go.Value) (xs : List ByteArray) : Prop where
  own : SO B wr v xs
  old : SO B wr u ys
  grown : w.grownBy wr u.ownBlock
  place : v.ownBlock = u.ownBlock ∨ ∀ g, v.ownBlock = some g → w.heap.size ≤ g
  pre : ∃ zs, xs = ys ++ zs

theorem grownBy_refl (w : World) (r : Option Nat) : w.grownBy w r := ⟨rfl, rfl, rfl, Nat.le_refl _, fun _ _ _ => rfl⟩
theorem Sp.start {B : Nat} {w : World} {u : Go.Value} {ys : List ByteArray} (h : SO B w u ys) : Sp B w u ys w u ys := ⟨h, h, grownBy_refl _ _, Or.inl rfl, [], by simp⟩

theorem SO.lt {B : Nat} {w : World} {v : Go.Value} {xs : List ByteArray} (h : SO B w v xs) {g : Nat} (hg : v.ownBlock = some g) : B ≤ g ∧ g < w.heap.size := World.ownsRow.lt h g hg

theorem Sp.alloc {B : Nat} {w wr : World} {u v : Go.Value} {ys xs : List ByteArray} (h : Sp B w u ys wr v xs) (o : Obj) : Sp B w u ys (wr.alloc o) v xs := by
  refine ⟨h.own.alloc o, h.old.alloc o, ⟨h.grown.os, h.grown.tape, h.grown.output, Nat.le_trans h.grown.size (by simp), fun k hk hne => ?_⟩, h.place, h.pre⟩
  rw [Below.heap_alloc _ _ _ (Nat.lt_of_lt_of_le hk h.grown.size)]
  exact h.grown.block k hk hne

/-- The append in place. -/
theorem Sp.room {B : Nat} {w wr w' : World} {u : Go.Value} {g cp : Nat} {ys xs : List ByteArray} {c : ByteArray} (h : Sp B w u ys wr (.slice (some ⟨g, 0, none⟩) xs.length cp) xs)
    (hown : SO B w' (.slice (some ⟨g, 0, none⟩) (xs.length + 1) cp) (xs ++ [c])) (hgrow : wr.grownBy w' (some g)) : Sp B w u ys w' (.slice (some ⟨g, 0, none⟩) (xs.length + 1) cp) (xs ++ [c]) := by
  obtain ⟨zs, hz⟩ := h.pre
  refine ⟨hown, ?_, ?_, h.place, zs ++ [c], by rw [hz, List.append_assoc]⟩
  · rcases h.old.2 with h1 | ⟨g0, cp0, cur0, h1, hg0, hh0, hle0, hm0, hs0, ht0⟩
    · exact ⟨h.old.1, Or.inl h1⟩
    · by_cases e : g0 = g
      · subst e
        rcases hown.2 with ⟨h2, _⟩ | ⟨g2, cp2, cur2, h2, hg2, hh2, hle2, hm2, hs2, ht2⟩
        · cases h2
        · simp only [Go.Value.slice.injEq, Option.some.injEq, Addr.mk.injEq, and_true] at h2
          obtain ⟨rfl, _, rfl⟩ := h2
          rcases h.own.2 with ⟨h3, _⟩ | ⟨g3, cp3, cur3, h3, hg3, hh3, hle3, hm3, hs3, ht3⟩
          · cases h3
          · simp only [Go.Value.slice.injEq, Option.some.injEq, Addr.mk.injEq, and_true, true_and] at h3
            obtain ⟨rfl, rfl⟩ := h3
            rw [hh0] at hh3
            have ec : cur0 = cur3 := by injection hh3 with hh3; injection hh3
            have ecp : cp0 = cp := by have := hs0; rw [ec, hs3] at this; omega
            refine ⟨h.old.1, Or.inr ⟨g0, cp0, cur2, h1, hg0, hh2, hle0, hm0, by rw [hs2, ecp], ?_⟩⟩
            have hl : ys.length ≤ xs.length + 1 := by rw [hz]; simp; omega
            have ht2' : cur2.toList.take (xs.length + 1) = strs (xs ++ [c]) := by simpa using ht2
            rw [Nat.mul_one, ← Nat.min_eq_left hl, ← List.take_take, ht2', hz, List.append_assoc, strs_append]
            have : ys.length = (strs ys).length := (length_strs ys).symm
            rw [this, List.take_left']
            rfl
      · exact ⟨h.old.1, Or.inr ⟨g0, cp0, cur0, h1, hg0, by rw [hgrow.block g0 (lt_of_block hh0) (by simpa using e)]; exact hh0, hle0, hm0, hs0, ht0⟩⟩
  · refine ⟨hgrow.os.trans h.grown.os, hgrow.tape.trans h.grown.tape, hgrow.output.trans h.grown.output, Nat.le_trans h.grown.size hgrow.size, fun k hk hne => ?_⟩
    rw [hgrow.block k (Nat.lt_of_lt_of_le hk h.grown.size) ?_]
    · exact h.grown.block k hk hne
    · intro e
      rcases h.place with h1 | h1
      · exact hne (by rw [e]; exact h1)
      · have := h1 g rfl
        injection e with e
        omega

/-- The append that grows. -/
theorem Sp.more {B : Nat} {w wr w' : World} {u v v' : Go.Value} {ys xs : List ByteArray} {c : ByteArray} (h : Sp B w u ys wr v xs) (hB : B ≤ wr.heap.size)
    (hown : SO wr.heap.size w' v' (xs ++ [c])) (hgrow : wr.grownBy w' none) : Sp B w u ys w' v' (xs ++ [c]) := by
  obtain ⟨zs, hz⟩ := h.pre
  refine ⟨?_, World.ownsRow.kept h.old hgrow (by cases u.ownBlock <;> simp), ?_, Or.inr fun g hg => Nat.le_trans h.grown.size (hown.lt hg).1, zs ++ [c], by rw [hz, List.append_assoc]⟩
  · rcases hown.2 with h1 | ⟨g, cp, cur, h1, hg, r⟩
    · exact ⟨hown.1, Or.inl h1⟩
    · exact ⟨hown.1, Or.inr ⟨g, cp, cur, h1, Nat.le_trans hB hg, r⟩⟩
  · refine ⟨hgrow.os.trans h.grown.os, hgrow.tape.trans h.grown.tape, hgrow.output.trans h.grown.output, Nat.le_trans h.grown.size hgrow.size, fun k hk hne => ?_⟩
    rw [hgrow.block k (Nat.lt_of_lt_of_le hk h.grown.size) (by simp)]
    exact h.grown.block k hk hne

/-- 'fields = append(fields, x)'. -/
theorem wpl_split {w0 w : World} {ops : Array Oper} {rest : List Oper} {o : Oper} {a : Act} {Q : Exit → Act → World → Prop}
    (hg : o.guard = none) (s x : Operand) (hop : o.op = Op.call { callee := Callee.builtin Builtin.append, args := #[s, x], argTypes := #[22, 22] })
    (B : Nat) (u v : Go.Value) (ys xs : List ByteArray) (hs : a.eval s = v) (h : Sp B w0 u ys w v xs) (c : ByteArray) (ad : Addr) (hx : a.eval x = .slice (some ad) 1 1) (hcell : w.cell? ad = some (.string c))
    (hk : xs.length ≤ 16777216) (hB : B ≤ w.heap.size)
    (hK : ∀ g cp w', Hid (Sp B w0 u ys w' (.slice (some ⟨g, 0, none⟩) (xs.length + 1) cp) (xs ++ [c])) → wpList Try.prog ops Q rest (a.put o.dst (.slice (some ⟨g, 0, none⟩) (xs.length + 1) cp)) w') :
    wpList Try.prog ops Q (o :: rest) a w := by
  obtain ⟨i0, hi, hz0, hz1, hz2⟩ := info_parts Try.info9
  have hnews : ∀ j u, (strs [c])[j]? = some u → w.cell? (ad.add j) = some u := by
    intro j u hu
    match j, hu with
    | 0, hu => simp [strs] at hu; subst hu; simpa [Addr.add] using hcell
  have ec : (xs ++ [c]).length = xs.length + 1 := by simp
  -- the arm that grows
  have grows : ∀ ao cap, v = .slice ao xs.length cap → (ao = none → xs.length = 0 ∧ cap = 0) → (∀ b, ao = some b → ∃ g, b = ⟨g, 0, none⟩) → cap < xs.length + 1 → wpList Try.prog ops Q (o :: rest) a w := by
    intro ao cap hv hnone hsome hcap
    refine wpList_append_grows w hg s x 22 hop 9 i0 (.string ByteArray.empty) 1 16 Try.underlying22 hi hz0 hz1 hz2 rfl (by omega) ao xs.length cap (strs xs) (by rw [hs, hv]) hnone (by rw [length_strs]; omega) ?_ ad 1 1 (strs [c]) hx (by simp [strs]) hnews (strs_one _) hcap (by unfold maxLen; omega) (by omega) ?_
    · intro b hb j u hu
      obtain ⟨g, rfl⟩ := hsome b hb
      subst hb
      rw [Addr.add_lit, Nat.zero_add]
      have hj : j < xs.length := by have := (List.getElem?_eq_some_iff.1 hu).1; rwa [length_strs] at this
      have hc := (hv ▸ h.own : SO B w (.slice (some ⟨g, 0, none⟩) xs.length cap) xs).cell j hj
      rw [strs_get hj] at hu
      rw [hc]; exact hu
    · intro v' w' hown' hgrow
      rw [← strs_append] at hown'
      have hso : SO w.heap.size w' v' (xs ++ [c]) := by unfold SO; rw [ec]; exact hown'
      have hsp := h.more hB hso hgrow
      rcases hso.shape with ⟨_, h0⟩ | ⟨g, cp, hv', _, _⟩
      · simp at h0
      · rw [ec] at hv'
        subst hv'
        exact hK g cp w' hsp
  rcases h.own.shape with ⟨h1, h2⟩ | ⟨g, cp, h1, hle, _⟩
  · exact grows none 0 (by rw [h1, h2]; rfl) (fun _ => ⟨by rw [h2]; rfl, rfl⟩) (fun b hb => by cases hb) (by omega)
  · by_cases hr : xs.length + 1 ≤ cp
    · subst h1
      refine wpList_append_fits w hg s x 22 hop B 9 i0 1 Try.underlying22 hi hz1 g xs.length cp (strs xs) hs h.own ad 1 1 (strs [c]) hx (by simp [strs]) hnews (strs_one _) hr ?_
      intro w' hown' hgrow
      rw [← strs_append] at hown'
      have hso : SO B w' (.slice (some ⟨g, 0, none⟩) (xs.length + 1) cp) (xs ++ [c]) := by unfold SO; rw [ec]; exact hown'
      exact hK g cp w' (h.room hso hgrow)
    · exact grows (some ⟨g, 0, none⟩) cp h1 (fun hh => by cases hh) (fun b hb => ⟨g, (Option.some.inj hb).symm⟩) (by omega)
end Go.Proofs.Qxb6603184a
