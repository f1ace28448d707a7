import Derived.Test.Qxb6603335aOrd
namespace Go.Proofs.Qxb6603335a
open Go.RowKit

theorem Try.info5 : (Try.prog.info? 5).map (fun i => (i.zero, i.size, i.bytes)) = some (some (.int .u8 0), 1, 1) := by kernel_rfl
theorem Try.info30 : (Try.prog.info? 30).map (fun i => (i.zero, i.size, i.bytes)) = some (some (.slice none 0 0), 1, 24) := by kernel_rfl
theorem Try.info3 : (Try.prog.info? 3).map (fun i => (i.zero, i.size, i.bytes)) = some (some (.int .i64 0), 1, 8) := by kernel_rfl

theorem row_cell {w : World} {g : Nat} {L : List Value} {t : TypeId} (h : w.heap[g]? = some (.cells L.toArray t (0, 0))) (j : Nat) : w.cell? ⟨g, j, none⟩ = L[j]? := by
  simp [World.cell?, h]
theorem row_free {w : World} {g : Nat} {L : List Value} {t : TypeId} (h : w.heap[g]? = some (.cells L.toArray t (0, 0))) (j : Nat) : w.frozen? ⟨g, j, none⟩ = false := by
  simp [World.frozen?, h]
theorem row_setCell {w : World} {g k : Nat} {cur : List Value} {v : Value} {t : TypeId} (h : w.heap[g]? = some (.cells cur.toArray t (0, 0))) :
    (w.setCell ⟨g, k, none⟩ v).heap[g]? = some (.cells (cur.set k v).toArray t (0, 0)) := by
  have hlt := lt_of_block h
  have h' : w.heap[g] = .cells cur.toArray t (0, 0) := by simpa [Array.getElem?_eq_getElem hlt] using h
  show (w.heap.modify g _)[g]? = _
  rw [Array.getElem?_eq_getElem (by simpa using hlt), Array.getElem_modify_self, h']
  simp
theorem add_block (a : Addr) (j : Nat) : (a.add j).block = a.block := by unfold Addr.add; split <;> rfl

theorem eqNil30 (w : World) (a : Option Addr) (n c : Nat) : (binOp .eql 30 (.slice a n c) (.slice none 0 0)).run Try.prog w = .ok (.bool a.isNone) w := Lib.run_eql_slice_nil w 30 5 a n c 0 0 Try.underlying30
theorem eqNil22 (w : World) (a : Option Addr) (n c : Nat) : (binOp .eql 22 (.slice a n c) (.slice none 0 0)).run Try.prog w = .ok (.bool a.isNone) w := Lib.run_eql_slice_nil w 22 30 a n c 0 0 Try.underlying22

theorem made_row {w w1 : World} {n : Nat} {X : List Value} {t : TypeId} (hown : w1.ownsRow w.heap.size t 1 (.slice (some ⟨w.heap.size, 0, none⟩) n n) n X) (hgrow : w.grownBy w1 none) :
    ∃ cur : List Value, w1.heap[w.heap.size]? = some (.cells cur.toArray t (0, 0)) ∧ cur.length = n ∧ Below w.heap.size w w1 := by
  obtain ⟨hl1, h2⟩ := hown
  have hb1 : Below w.heap.size w w1 := (Below.refl _ _).grown hgrow (Nat.le_refl _) (by simp)
  rcases h2 with ⟨h, _⟩ | ⟨g, cp, cur, hv, _, hh, _, _, hs, _⟩
  · simp at h
  · simp at hv; obtain ⟨rfl, rfl⟩ := hv; exact ⟨cur.toList, by simpa using hh, by simpa using hs, hb1⟩

/-- A row of the call's own while it is filled: the first k cells hold V. -/
def Fil (t : TypeId) (w0 w : World) (m k : Nat) (V : Nat → Value) : Prop :=
  Below w0.heap.size w0 w ∧ ∃ cur : List Value, w.heap[w0.heap.size]? = some (.cells cur.toArray t (0, 0)) ∧ cur.length = m ∧ ∀ r, r < k → cur[r]? = some (V r)
theorem Fil.lt {t : TypeId} {w0 w : World} {m k : Nat} {V : Nat → Value} (h : Fil t w0 w m k V) : w0.heap.size < w.heap.size := by
  obtain ⟨_, cur, h1, _⟩ := h; exact lt_of_block h1
theorem Fil.below {t : TypeId} {w0 w w1 : World} {m k : Nat} {V : Nat → Value} (h : Fil t w0 w m k V) (hb : Below w.heap.size w w1) : Fil t w0 w1 m k V := by
  have hlt := h.lt
  obtain ⟨h0, cur, h1, h2, h3⟩ := h
  exact ⟨h0.trans (hb.mono h0.size), cur, by rw [hb.block _ hlt]; exact h1, h2, h3⟩
theorem Fil.cell {t : TypeId} {w0 w : World} {m k : Nat} {V : Nat → Value} (h : Fil t w0 w m k V) (j : Nat) (hj : j < m) : (∃ v, w.cell? ⟨w0.heap.size, j, none⟩ = some v) ∧ w.frozen? ⟨w0.heap.size, j, none⟩ = false := by
  obtain ⟨_, cur, h1, h2, _⟩ := h
  exact ⟨⟨cur[j]'(by omega), by rw [row_cell h1, List.getElem?_eq_getElem (by omega)]⟩, row_free h1 j⟩
theorem Fil.get {t : TypeId} {w0 w : World} {m k : Nat} {V : Nat → Value} (h : Fil t w0 w m k V) (j : Nat) (hj : j < k) : w.cell? ⟨w0.heap.size, j, none⟩ = some (V j) := by
  obtain ⟨_, cur, h1, h2, h3⟩ := h
  rw [row_cell h1]; exact h3 j hj
theorem Fil.step {t : TypeId} {w0 w : World} {m k : Nat} {V : Nat → Value} (h : Fil t w0 w m k V) (hk : k < m) (v : Value) (hv : v = V k) : Fil t w0 (w.setCell ⟨w0.heap.size, k, none⟩ v) m (k + 1) V := by
  subst hv
  obtain ⟨h0, cur, h1, h2, h3⟩ := h
  refine ⟨h0.setCell (Nat.le_refl _) _, cur.set k (V k), row_setCell h1, by simpa using h2, fun r hr => ?_⟩
  by_cases e : r = k
  · subst e; simp [List.getElem?_set]; omega
  · rw [List.getElem?_set_ne (by omega)]; exact h3 r (by omega)

/-- 'make([]T, n)' of one-cell elements. -/
theorem wpl_make {w : World} {ops : Array Oper} {rest : List Oper} {o : Oper} {a : Act} {Q : Exit → Act → World → Prop} {T E : TypeId} {z : Value} {by_ : Nat}
    (hT : Try.prog.underlying T = some (.slice E)) (hI : (Try.prog.info? E).map (fun i => (i.zero, i.size, i.bytes)) = some (some z, 1, by_)) (hby : by_ ≤ 24)
    (hg : o.guard = none) (l c : Operand) (hop : o.op = Op.makeSlice T l c) (n : Nat) (L C : Int) (hl : a.eval l = .int .i64 L) (hc : a.eval c = .int .i64 C) (hL : L = (n : Int)) (hC : C = (n : Int)) (hn : n ≤ 16777216) (V : Nat → Value)
    (hK : ∀ w', Hid (Fil E w w' n 0 V) → wpList Try.prog ops Q rest (a.put o.dst (.slice (some ⟨w.heap.size, 0, none⟩) n n)) w') :
    wpList Try.prog ops Q (o :: rest) a w := by
  obtain ⟨i0, hi, hz0, hz1, hz2⟩ := info_parts hI
  refine wpList_make_full w hg l c T hop w.heap.size E i0 z 1 hT hi hz0 hz1 .i64 .i64 L C n hl hc hL hC (by rw [hz2]; exact Nat.le_trans (Nat.mul_le_mul hby hn) (by decide)) (by unfold maxLen; omega) (Nat.le_refl _) ?_
  intro w' hown hgrow
  obtain ⟨cur, h1, h2, h3⟩ := made_row hown hgrow
  exact hK w' ⟨h3, cur, h1, h2, fun r hr => absurd hr (Nat.not_lt_zero r)⟩

set_option maxHeartbeats 400000 in
theorem copyB_nil (w : World) : Calls Try.prog 11 #[.slice none 0 0] w fun e w' => e = .returned (.slice none 0 0) ∧ w' = w := by
  have q := eqNil30
  go_enter Try.func11, Try.ntmps11
  go_wp2
  go_ret
  exact ⟨rfl, rfl⟩

set_option maxHeartbeats 1000000 in
theorem copyB_some (a : Addr) (n cap : Nat) (d : Nat → Int) (w : World) (hn : n ≤ 4194304) (hc : 0 < n → ∃ b off, a = ⟨b, off, none⟩ ∧ ∀ i, i < n → w.cell? ⟨b, off + i, none⟩ = some (.int .u8 (d i))) :
    Calls Try.prog 11 #[.slice (some a) n cap] w fun e w' => e = .returned (.slice (some ⟨w.heap.size, 0, none⟩) n n) ∧ Fil 5 w w' n n (fun i => .int .u8 (d i)) := by
  have q := eqNil30
  have HC : Hid (0 < n → ∃ b off, a = ⟨b, off, none⟩ ∧ ∀ i, i < n → w.cell? ⟨b, off + i, none⟩ = some (.int .u8 (d i))) := hc
  clear hc
  go_enter Try.func11, Try.ntmps11
  go_wp2_with (at_make; refine wpl_make Try.underlying30 Try.info5 (by omega) rfl (.tmp 8) (.tmp 8) rfl n _ _ rfl rfl rfl rfl (by omega) (fun i => .int .u8 (d i)) ?_; intro w1 hfil)
  go_loopw [4] (fun i wr => ∃ k : Nat, k ≤ n ∧ i = .int .i64 (k : Int) ∧ Hid (Fil 5 w wr n k (fun i => .int .u8 (d i)))) (fun i _ => n - (intOf i).toNat)
  case atStart => exact ⟨0, Nat.zero_le _, rfl, hfil⟩
  case round =>
    obtain ⟨k, hk, rfl, hf⟩ := hrel
    clear hfil
    by_cases hlt : k < n
    · obtain ⟨b, off, rfl, hc⟩ := HC.out (by omega)
      have hck : wr.cell? ⟨b, off + k, none⟩ = some (.int .u8 (d k)) := by rw [hf.out.1.cell (World.block_lt_of_cell? _ _ (hc k hlt))]; exact hc k hlt
      obtain ⟨⟨v0, hv0⟩, hf0⟩ := hf.out.cell k hlt
      have HST : Hid (Fil 5 w (wr.setCell ⟨w.heap.size, k, none⟩ (.int .u8 (d k))) n (k + 1) (fun i => .int .u8 (d i))) := hf.out.step hlt _ rfl
      clear hc HC
      go_wp2
      go_roundw
      case rel => exact ⟨k + 1, by omega, by go_num, HST⟩
      case measure => simp [intOf]; omega
    · obtain rfl : k = n := by omega
      go_wp2
      go_ret
      exact ⟨rfl, hf.out⟩

/-! ### Slices of slices -/
def PRow (w : World) (ao : Option Addr) (n : Nat) (A : Nat → Option Addr) (L C : Nat → Nat) : Prop :=
  0 < n → ∃ b off, ao = some ⟨b, off, none⟩ ∧ ∀ r, r < n → w.cell? ⟨b, off + r, none⟩ = some (.slice (A r) (L r) (C r))
/-- A slice of bytes that came in. -/
def InB (w : World) (a : Option Addr) (l c : Nat) (d : Nat → Int) : Prop :=
  (a = none ∧ l = 0 ∧ c = 0) ∨ ∃ x, a = some x ∧ (0 < l → ∃ b off, x = ⟨b, off, none⟩ ∧ ∀ i, i < l → w.cell? ⟨b, off + i, none⟩ = some (.int .u8 (d i)))
/-- A slice of bytes of plain address. -/
def SlB (w : World) (a : Option Addr) (l c : Nat) (d : Nat → Int) : Prop :=
  (a = none ∧ l = 0 ∧ c = 0) ∨ ∃ b off, a = some ⟨b, off, none⟩ ∧ b < w.heap.size ∧ ∀ i, i < l → w.cell? ⟨b, off + i, none⟩ = some (.int .u8 (d i))
theorem InB.below {w w1 : World} {a : Option Addr} {l c : Nat} {d : Nat → Int} (h : InB w a l c d) (hb : Below w.heap.size w w1) : InB w1 a l c d := by
  rcases h with h | ⟨x, rfl, h⟩
  · exact Or.inl h
  · refine Or.inr ⟨x, rfl, fun h0 => ?_⟩
    obtain ⟨b, off, e, hc⟩ := h h0
    exact ⟨b, off, e, fun i hi => by rw [hb.cell (World.block_lt_of_cell? _ _ (hc i hi))]; exact hc i hi⟩
theorem SlB.below {w w1 : World} {a : Option Addr} {l c : Nat} {d : Nat → Int} (h : SlB w a l c d) (hb : Below w.heap.size w w1) : SlB w1 a l c d := by
  rcases h with h | ⟨b, off, rfl, hlt, hc⟩
  · exact Or.inl h
  · exact Or.inr ⟨b, off, rfl, Nat.lt_of_lt_of_le hlt hb.size, fun i hi => by rw [hb.cell (World.block_lt_of_cell? _ _ (hc i hi))]; exact hc i hi⟩
theorem SlB.setCell {w : World} {a : Option Addr} {l c : Nat} {d : Nat → Int} (h : SlB w a l c d) {p : Addr} {v : Value} (hne : ∀ x, a = some x → x.block ≠ p.block) : SlB (w.setCell p v) a l c d := by
  rcases h with h | ⟨b, off, rfl, hlt, hc⟩
  · exact Or.inl h
  · exact Or.inr ⟨b, off, rfl, by simpa [World.setCell] using hlt, fun i hi => by rw [World.cell?_of_block (w := w) (a := ⟨b, off + i, none⟩) (Below.heap_setCell _ _ _ _ (hne ⟨b, off, none⟩ rfl))]; exact hc i hi⟩

/-- copyBytes at whatever slice. -/
def CopiedB (w w' : World) (l : Nat) (d : Nat → Int) (e : Ending) : Prop :=
  ∃ (a : Option Addr) (c : Nat), e = .returned (.slice a l c) ∧ SlB w' a l c d ∧ (∀ x, a = some x → w.heap.size ≤ x.block) ∧ Below w.heap.size w w'
theorem copyB_any (a : Option Addr) (n cap : Nat) (d : Nat → Int) (w : World) (hn : n ≤ 4194304) (h : InB w a n cap d) : Calls Try.prog 11 #[.slice a n cap] w fun e w' => CopiedB w w' n d e := by
  rcases h with ⟨rfl, rfl, rfl⟩ | ⟨x, rfl, h⟩
  · refine (copyB_nil w).mono ?_
    rintro e w' ⟨rfl, rfl⟩
    exact ⟨none, 0, rfl, Or.inl ⟨rfl, rfl, rfl⟩, fun x hx => (by cases hx), Below.refl _ _⟩
  · refine (copyB_some x n cap d w hn h).mono ?_
    rintro e w' ⟨rfl, hf⟩
    exact ⟨_, n, rfl, Or.inr ⟨_, _, rfl, hf.lt, fun i hi => by rw [Nat.zero_add]; exact hf.get i hi⟩, fun x hx => (by cases hx; exact Nat.le_refl _), hf.1⟩

def upd {α : Type} (f : Nat → α) (k : Nat) (v : α) : Nat → α := fun r => if r = k then v else f r
theorem upd_same {α : Type} (f : Nat → α) (k : Nat) (v : α) : upd f k v k = v := by simp [upd]
theorem upd_other {α : Type} {f : Nat → α} {k : Nat} {v : α} {r : Nat} (h : r ≠ k) : upd f k v r = f r := by simp [upd, h]

/-- The copy of the names behind k rounds. -/
structure Cn (w0 w : World) (n k : Nat) (A : Nat → Option Addr) (L C : Nat → Nat) (D : Nat → Nat → Int) : Prop where
  fil : Fil 30 w0 w n k (fun r => .slice (A r) (L r) (C r))
  nam : ∀ r, r < k → SlB w (A r) (L r) (C r) (D r)
  off : ∀ r, r < k → ∀ x, A r = some x → x.block ≠ w0.heap.size
theorem Cn.step {w0 w w1 : World} {n k : Nat} {A : Nat → Option Addr} {L C : Nat → Nat} {D : Nat → Nat → Int} (h : Cn w0 w n k A L C D) (hk : k < n) (hb : Below w.heap.size w w1) {a : Option Addr} {c : Nat} (hs : SlB w1 a (L k) c (D k)) (ha : ∀ x, a = some x → w.heap.size ≤ x.block) :
    Cn w0 (w1.setCell ⟨w0.heap.size, k, none⟩ (.slice a (L k) c)) n (k + 1) (upd A k a) L (upd C k c) D := by
  have hlt := h.fil.lt
  have f1 := h.fil.below hb
  refine ⟨?_, fun r hr => ?_, fun r hr x hx => ?_⟩
  · have f2 : Fil 30 w0 w1 n k (fun r => .slice (upd A k a r) (L r) (upd C k c r)) := by
      obtain ⟨h0, cur, h1, h2, h3⟩ := f1
      exact ⟨h0, cur, h1, h2, fun r hr => by rw [h3 r hr]; simp [upd, show r ≠ k by omega]⟩
    exact f2.step hk _ (by simp [upd_same])
  · by_cases e : r = k
    · subst e
      rw [upd_same, upd_same]
      exact hs.setCell fun x hx => by have := ha x hx; show x.block ≠ w0.heap.size; omega
    · rw [upd_other e, upd_other e]
      exact ((h.nam r (by omega)).below hb).setCell fun x hx => h.off r (by omega) x hx
  · by_cases e : r = k
    · subst e; rw [upd_same] at hx; have := ha x hx; omega
    · rw [upd_other e] at hx; exact h.off r (by omega) x hx

/-- Names that can be read: what copyNames leaves. -/
structure Nm (w : World) (ao : Option Addr) (n : Nat) (A : Nat → Option Addr) (L C : Nat → Nat) (D : Nat → Nat → Int) : Prop where
  row : PRow w ao n A L C
  nam : ∀ r, r < n → SlB w (A r) (L r) (C r) (D r)
theorem Nm.below {w w1 : World} {ao : Option Addr} {n : Nat} {A : Nat → Option Addr} {L C : Nat → Nat} {D : Nat → Nat → Int} (h : Nm w ao n A L C D) (hb : Below w.heap.size w w1) : Nm w1 ao n A L C D :=
  ⟨fun h0 => by obtain ⟨b, off, rfl, hc⟩ := h.row h0; exact ⟨b, off, rfl, fun r hr => by rw [hb.cell (World.block_lt_of_cell? _ _ (hc r hr))]; exact hc r hr⟩, fun r hr => (h.nam r hr).below hb⟩

def CopiedN (w w' : World) (n : Nat) (L : Nat → Nat) (D : Nat → Nat → Int) (e : Ending) : Prop :=
  ∃ (ao : Option Addr) (A : Nat → Option Addr) (C : Nat → Nat), e = .returned (.slice ao n n) ∧ Nm w' ao n A L C D ∧ Below w.heap.size w w'

set_option maxHeartbeats 1000000 in
theorem copyN_any (ao : Option Addr) (n cap : Nat) (A : Nat → Option Addr) (L C : Nat → Nat) (D : Nat → Nat → Int) (w : World) (hn : n ≤ 65536) (hL : ∀ r, r < n → L r ≤ 1048576) (hao : ao = none → n = 0 ∧ cap = 0) (hrow : PRow w ao n A L C) (hin : ∀ r, r < n → InB w (A r) (L r) (C r) (D r)) :
    Calls Try.prog 7 #[.slice ao n cap] w fun e w' => CopiedN w w' n L D e := by
  have q := eqNil22
  have HR : Hid (PRow w ao n A L C) := hrow
  have HL : Hid (∀ r, r < n → L r ≤ 1048576) := hL
  have HI : Hid (∀ r, r < n → InB w (A r) (L r) (C r) (D r)) := hin
  clear hrow hL hin
  cases ao with
  | none =>
    obtain ⟨rfl, rfl⟩ := hao rfl
    clear hao
    go_enter Try.func7, Try.ntmps7
    go_wp2
    go_ret
    exact ⟨none, A, C, rfl, ⟨fun h => absurd h (Nat.lt_irrefl _), fun r hr => absurd hr (Nat.not_lt_zero r)⟩, Below.refl _ _⟩
  | some a =>
    clear hao
    go_enter Try.func7, Try.ntmps7
    go_wp2_with (at_make; refine wpl_make Try.underlying22 Try.info30 (by omega) rfl (.tmp 8) (.tmp 8) rfl n _ _ rfl rfl rfl rfl (by omega) (fun r => .slice (A r) (L r) (C r)) ?_; intro w1 hfil)
    go_loopw [4] (fun i wr => ∃ (k : Nat) (A' : Nat → Option Addr) (C' : Nat → Nat), k ≤ n ∧ i = .int .i64 (k : Int) ∧ Hid (Cn w wr n k A' L C' D)) (fun i _ => n - (intOf i).toNat)
    case atStart => exact ⟨0, A, C, Nat.zero_le _, rfl, ⟨hfil.out, fun r hr => absurd hr (Nat.not_lt_zero r), fun r hr => absurd hr (Nat.not_lt_zero r)⟩⟩
    case round =>
      obtain ⟨k, A', C', hk, rfl, hcn⟩ := hrel
      clear hfil
      by_cases hlt : k < n
      · obtain ⟨b, off, hab, hc⟩ := HR.out (by omega)
        obtain rfl := Option.some.inj hab
        have hbw := hcn.out.fil.1
        have hck : wr.cell? ⟨b, off + k, none⟩ = some (.slice (A k) (L k) (C k)) := by rw [hbw.cell (World.block_lt_of_cell? _ _ (hc k hlt))]; exact hc k hlt
        have H := copyB_any (A k) (L k) (C k) (D k) wr (by have := HL.out k hlt; omega) ((HI.out k hlt).below hbw)
        clear hc HR HL HI hbw
        go_wp2_with (go_at_call 11; refine H.mono ?_; rintro e w2 hcb; obtain ⟨a2, c2, rfl, hs2, ha2, hb2⟩ := hcb; have HST : Hid (Cn w (w2.setCell ⟨w.heap.size, k, none⟩ (.slice a2 (L k) c2)) n (k + 1) (upd A' k a2) L (upd C' k c2) D) := hcn.out.step hlt hb2 hs2 ha2; obtain ⟨⟨v0, hv0⟩, hf0⟩ := (hcn.out.fil.below hb2).cell k hlt; clear hs2 ha2 hb2)
        go_roundw
        case rel => exact ⟨k + 1, _, _, by omega, by go_num, HST⟩
        case measure => simp [intOf]; omega
      · obtain rfl : k = n := by omega
        go_wp2
        go_ret
        exact ⟨_, A', C', rfl, ⟨fun _ => ⟨_, _, rfl, fun r hr => by rw [Nat.zero_add]; exact hcn.out.fil.get r hr⟩, hcn.out.nam⟩, hcn.out.fil.1⟩

/-- False is returned; or true is, and P holds. -/
def BoolOr (P : Prop) (e : Ending) : Prop := e = .returned (.bool false) ∨ (e = .returned (.bool true) ∧ P)

set_option maxHeartbeats 1000000 in
theorem zz5_any (ao : Option Addr) (n cap : Nat) (A : Nat → Option Addr) (L C : Nat → Nat) (w : World) (hm : n ≤ maxLen) (hL : ∀ r, r < n → L r ≤ maxLen) (hrow : PRow w ao n A L C) :
    Calls Try.prog 5 #[.slice ao n cap] w fun e w' => BoolOr (∀ r, r < n → L r ≤ 1048576) e ∧ w' = w := by
  have HR : Hid (PRow w ao n A L C) := hrow
  have HL : Hid (∀ r, r < n → L r ≤ maxLen) := hL
  clear hrow hL
  unfold maxLen at hm
  by_cases h0 : n ≤ 1048576
  · go_enter Try.func5, Try.ntmps5
    go_wp2
    go_loop [3, 4] (fun t i => ∃ k q : Nat, k ≤ n ∧ i = .int .i64 k ∧ t = .int .i64 q ∧ q ≤ 1048576 ∧ ∀ r, r < k → L r ≤ 1048576) (fun _ i => n - (intOf i).toNat)
    case atStart => exact ⟨0, n, Nat.zero_le _, rfl, rfl, h0, fun r hr => absurd hr (Nat.not_lt_zero r)⟩
    case round =>
      obtain ⟨k, q, hk, rfl, rfl, hq, hall⟩ := hrel
      have HA : Hid (∀ r, r < k → L r ≤ 1048576) := hall
      clear hall
      by_cases hlt : k < n
      · obtain ⟨b, off, rfl, hc⟩ := HR.out (by omega)
        have hck := hc k hlt
        have hLk := HL.out k hlt
        unfold maxLen at hLk
        clear hc HR HL
        by_cases h1 : L k ≤ 1048576
        · by_cases h2 : q + L k ≤ 1048576
          · go_wp2
            go_round
            case rel => exact ⟨k + 1, q + L k, by omega, by go_num, by go_num, by omega, fun r hr => by rcases Nat.lt_or_ge r k with h | h; exact HA.out r h; rw [show r = k by omega]; exact h1⟩
            case measure => simp [intOf]; omega
          · go_wp2
            go_ret
            exact ⟨Or.inl rfl, rfl⟩
        · go_wp2
          go_ret
          exact ⟨Or.inl rfl, rfl⟩
      · obtain rfl : k = n := by omega
        go_wp2
        go_ret
        exact ⟨Or.inr ⟨rfl, HA.out⟩, rfl⟩
  · go_enter Try.func5, Try.ntmps5
    go_wp2
    go_ret
    exact ⟨Or.inl rfl, rfl⟩

/-- What namesBytes answers: too much; or all is small. -/
def NB (n : Nat) (e : Ending) : Prop := e = .returned (.int .i64 2097152) ∨ ∃ q : Nat, e = .returned (.int .i64 (q : Int)) ∧ q ≤ 1048576 ∧ n ≤ 65536
set_option maxHeartbeats 1000000 in
theorem namesBytes_any (ao : Option Addr) (n cap : Nat) (A : Nat → Option Addr) (L C : Nat → Nat) (w : World) (hm : n ≤ maxLen) (hL : ∀ r, r < n → L r ≤ 1048576) (hrow : PRow w ao n A L C) :
    Calls Try.prog 6 #[.slice ao n cap] w fun e w' => NB n e ∧ w' = w := by
  have HR : Hid (PRow w ao n A L C) := hrow
  have HL : Hid (∀ r, r < n → L r ≤ 1048576) := hL
  clear hrow hL
  unfold maxLen at hm
  by_cases h0 : n ≤ 65536
  · go_enter Try.func6, Try.ntmps6
    go_wp2
    go_loop [3, 4] (fun t i => ∃ k q : Nat, k ≤ n ∧ i = .int .i64 k ∧ t = .int .i64 q ∧ (q ≤ 1048576 ∨ (k = 0 ∧ q = 24 * n)) ∧ q ≤ 2097152) (fun _ i => n - (intOf i).toNat)
    case atStart => exact ⟨0, 24 * n, Nat.zero_le _, rfl, by go_num, Or.inr ⟨rfl, rfl⟩, by omega⟩
    case round =>
      obtain ⟨k, q, hk, rfl, rfl, hq, hq2⟩ := hrel
      by_cases hlt : k < n
      · obtain ⟨b, off, rfl, hc⟩ := HR.out (by omega)
        have hck := hc k hlt
        have hLk := HL.out k hlt
        clear hc HR HL hq
        by_cases h2 : q + L k ≤ 1048576
        · go_wp2
          go_round
          case rel => exact ⟨k + 1, q + L k, by omega, by go_num, by go_num, Or.inl h2, by omega⟩
          case measure => simp [intOf]; omega
        · go_wp2
          go_ret
          exact ⟨Or.inl rfl, rfl⟩
      · obtain rfl : k = n := by omega
        have hq3 : q ≤ 1048576 := by omega
        clear hq
        go_wp2
        go_ret
        exact ⟨Or.inr ⟨q, rfl, hq3, h0⟩, rfl⟩
  · go_enter Try.func6, Try.ntmps6
    go_wp2
    go_ret
    exact ⟨Or.inl rfl, rfl⟩
end Go.Proofs.Qxb6603335a
