import Derived.Test.Qxb6602604aLenA
namespace Go.Proofs.Qxb6602604a
open Go.RowKit

/-- Each piece that is not empty can be read. -/
def Src (w : World) (n : Nat) (A : Nat → Option Addr) (L : Nat → Nat) : Prop :=
  ∀ r, r < n → 0 < L r → ∃ a, A r = some a ∧ a.block < w.heap.size ∧ ∃ d : Nat → Int, ∀ c, c < L r → w.cell? (a.add c) = some (.int .u8 (d c))

theorem Src.below {w w' : World} {n : Nat} {A : Nat → Option Addr} {L : Nat → Nat} (h : Src w n A L) (hb : Below w.heap.size w w') : Src w' n A L := by
  intro r hr h0
  obtain ⟨a, ha, hlt, d, hd⟩ := h r hr h0
  exact ⟨a, ha, Nat.lt_of_lt_of_le hlt hb.size, d, fun c hc => by rw [hb.cell (by rw [add_block]; exact hlt)]; exact hd c hc⟩

theorem row_setCell {w : World} {g k : Nat} {cur : List Value} {v : Value} {t : TypeId} (h : w.heap[g]? = some (.cells cur.toArray t (0, 0))) :
    (w.setCell ⟨g, k, none⟩ v).heap[g]? = some (.cells (cur.set k v).toArray t (0, 0)) := by
  have hlt := lt_of_block h
  have h' : w.heap[g] = .cells cur.toArray t (0, 0) := by simpa [Array.getElem?_eq_getElem hlt] using h
  show (w.heap.modify g _)[g]? = _
  rw [Array.getElem?_eq_getElem (by simpa using hlt), Array.getElem_modify_self, h']
  simp

/-- The state of the copying of the pieces behind k rounds. -/
structure Cl (w0 w : World) (n k : Nat) (A : Nat → Option Addr) (L C : Nat → Nat) : Prop where
  below : Below w0.heap.size w0 w
  src : Src w k A L
  off : ∀ r, r < k → ∀ x, A r = some x → x.block ≠ w0.heap.size
  row : ∃ cur : List Value, w.heap[w0.heap.size]? = some (.cells cur.toArray 24 (0, 0)) ∧ cur.length = n ∧ ∀ r, r < k → cur[r]? = some (.slice (A r) (L r) (C r))

theorem Cl.step {w0 w w1 : World} {n k : Nat} {A : Nat → Option Addr} {L C : Nat → Nat} (h : Cl w0 w n k A L C) (hk : k < n) (hb : Below w.heap.size w w1) (a : Option Addr) (c : Nat)
    (ha : ∀ x, a = some x → x.block ≠ w0.heap.size)
    (hs : 0 < L k → ∃ x, a = some x ∧ x.block < w1.heap.size ∧ ∃ d : Nat → Int, ∀ j, j < L k → w1.cell? (x.add j) = some (.int .u8 (d j))) :
    Cl w0 (w1.setCell ⟨w0.heap.size, k, none⟩ (.slice a (L k) c)) n (k + 1) (fun r => if r = k then a else A r) L (fun r => if r = k then c else C r) := by
  obtain ⟨h1, h2, hne, cur, h3, h4, h5⟩ := h
  have hlt := lt_of_block h3
  have h3' : w1.heap[w0.heap.size]? = some (.cells cur.toArray 24 (0, 0)) := by rw [hb.block _ hlt]; exact h3
  have hsz : (w1.setCell ⟨w0.heap.size, k, none⟩ (.slice a (L k) c)).heap.size = w1.heap.size := by simp [World.setCell]
  have hcell : ∀ p : Addr, p.block ≠ w0.heap.size → (w1.setCell ⟨w0.heap.size, k, none⟩ (.slice a (L k) c)).cell? p = w1.cell? p := fun p hp =>
    World.cell?_of_block (Below.heap_setCell _ _ _ _ hp)
  refine ⟨(h1.trans (hb.mono h1.size)).setCell (Nat.le_refl _) _, ?_, ?_, cur.set k (.slice a (L k) c), row_setCell h3', by simpa using h4, ?_⟩
  · intro r hr h0
    by_cases e : r = k
    · subst e
      obtain ⟨x, rfl, hx2, d, hd⟩ := hs h0
      exact ⟨x, by simp, by rw [hsz]; exact hx2, d, fun j hj => by rw [hcell _ (by rw [add_block]; exact ha x rfl)]; exact hd j hj⟩
    · obtain ⟨x, hx, hxl, d, hd⟩ := h2 r (by omega) h0
      have hxn := hne r (by omega) x hx
      refine ⟨x, by simp [e, hx], by rw [hsz]; exact Nat.lt_of_lt_of_le hxl hb.size, d, fun j hj => ?_⟩
      rw [hcell _ (by rw [add_block]; exact hxn), hb.cell (by rw [add_block]; exact hxl)]
      exact hd j hj
  · intro r hr x hx
    by_cases e : r = k
    · subst e; exact ha x (by simpa using hx)
    · exact hne r (by omega) x (by simpa [e] using hx)
  · intro r hr
    by_cases e : r = k
    · subst e; simp [List.getElem?_set]; omega
    · rw [List.getElem?_set_ne (by omega)]; simp [e]; exact h5 r (by omega)

theorem Cl.start {w0 w : World} {n : Nat} {cur : List Value} (hb : Below w0.heap.size w0 w) (hc : w.heap[w0.heap.size]? = some (.cells cur.toArray 24 (0, 0))) (hl : cur.length = n) (A : Nat → Option Addr) (L C : Nat → Nat) : Cl w0 w n 0 A L C :=
  ⟨hb, fun r hr => absurd hr (Nat.not_lt_zero r), fun r hr => absurd hr (Nat.not_lt_zero r), cur, hc, hl, fun r hr => absurd hr (Nat.not_lt_zero r)⟩

theorem Cl.cell {w0 w w1 : World} {n k : Nat} {A : Nat → Option Addr} {L C : Nat → Nat} (h : Cl w0 w n k A L C) (hk : k < n) (hb : Below w.heap.size w w1) :
    (∃ v, w1.cell? ⟨w0.heap.size, k, none⟩ = some v) ∧ w1.frozen? ⟨w0.heap.size, k, none⟩ = false ∧ w0.heap.size < w.heap.size := by
  obtain ⟨cur, h3, h4, _⟩ := h.row
  have hlt := lt_of_block h3
  have h3' : w1.heap[w0.heap.size]? = some (.cells cur.toArray 24 (0, 0)) := by rw [hb.block _ hlt]; exact h3
  exact ⟨⟨cur[k]'(by omega), by rw [row_cell h3', List.getElem?_eq_getElem (by omega)]⟩, row_free h3' k, hlt⟩

theorem Cl.done {w0 w : World} {n : Nat} {A : Nat → Option Addr} {L C : Nat → Nat} (h : Cl w0 w n n A L C) : PRow w (some ⟨w0.heap.size, 0, none⟩) n A L C := by
  obtain ⟨cur, h3, h4, h5⟩ := h.row
  exact fun _ => ⟨_, _, rfl, fun r hr => by rw [Nat.zero_add, row_cell h3]; exact h5 r hr⟩

set_option maxHeartbeats 400000 in
theorem clonePieces_nil (w : World) : Calls Try.prog 9 #[.slice none 0 0] w fun e w' => e = .returned (.slice none 0 0) ∧ w' = w := by
  have q := eqNil22
  go_enter Try.func9, Try.ntmps9
  go_wp2
  go_ret
  exact ⟨rfl, rfl⟩

set_option maxHeartbeats 1000000 in
theorem clonePieces_some (a : Addr) (n cap : Nat) (A : Nat → Option Addr) (L C : Nat → Nat) (w : World) (hn : n ≤ 65536) (hL : ∀ r, r < n → L r ≤ 1048576) (hrow : PRow w (some a) n A L C) (hlt : 0 < n → a.block < w.heap.size)
    (hsrc : Src w n A L) (hnil : ∀ r, r < n → A r = none → L r = 0 ∧ C r = 0) :
    Calls Try.prog 9 #[.slice (some a) n cap] w fun e w' => e = .returned (.slice (some ⟨w.heap.size, 0, none⟩) n n) ∧ ∃ A' C', Cl w w' n n A' L C' := by
  obtain ⟨i0, hi, hz0, hz1, hz2⟩ := info_parts Try.info24
  have q := eqNil22
  have hm : n ≤ maxLen := by unfold maxLen; omega
  have HR : Hid (PRow w (some a) n A L C) := hrow
  have HL : Hid (∀ r, r < n → L r ≤ 1048576) := hL
  have HS : Hid (Src w n A L) := hsrc
  have HN : Hid (∀ r, r < n → A r = none → L r = 0 ∧ C r = 0) := hnil
  have HA : Hid (0 < n → a.block < w.heap.size) := hlt
  clear hrow hL hsrc hnil hlt
  go_enter Try.func9, Try.ntmps9
  go_wp2_with (first
    | (at_make; refine wpList_make_full _ rfl (.tmp 8) (.tmp 8) 22 rfl w.heap.size 24 i0 (.slice none 0 0) 1 Try.underlying22 hi hz0 hz1 .i64 .i64 n n n rfl rfl rfl rfl (by rw [hz2]; omega) hm (Nat.le_refl _) ?_; intro w1 hown hgrow; obtain ⟨cur, hcur, hsz, hb1⟩ := made_row hown hgrow; have hst := Cl.start hb1 hcur hsz A L C; clear hown hgrow hcur hsz hb1))
  go_loopw [4] (fun i wr => ∃ (k : Nat) (A' : Nat → Option Addr) (C' : Nat → Nat), k ≤ n ∧ i = .int .i64 k ∧ Cl w wr n k A' L C') (fun i _ => n - (intOf i).toNat)
  case atStart => exact ⟨0, A, C, Nat.zero_le _, rfl, hst⟩
  case round =>
    obtain ⟨k, A', C', hk, rfl, hcl⟩ := hrel
    by_cases hlt : k < n
    · obtain ⟨b, off, hab, hc⟩ := HR.out (by omega)
      have hab' := HA.out (by omega)
      obtain rfl := Option.some.inj hab
      have hck : wr.cell? ⟨b, off + k, none⟩ = some (.slice (A k) (L k) (C k)) := by rw [hcl.below.cell (by exact hab')]; exact hc k hlt
      have hLk := HL.out k hlt
      have hsr := HS.out k hlt
      have hnl := HN.out k hlt
      clear hc HR HL HS HN HA hst
      obtain ⟨ak, hak⟩ : ∃ x, x = A k := ⟨_, rfl⟩
      rw [← hak] at hck hsr hnl
      cases ak with
      | none =>
        obtain ⟨h0, h1⟩ := hnl rfl
        rw [h0, h1] at hck
        have H := clone_nil wr
        obtain ⟨⟨v0, hv0⟩, hf0, _⟩ := hcl.cell hlt (Below.refl _ _)
        have hst := hcl.step hlt (Below.refl _ wr) none 0 (fun x hx => by cases hx) (fun h => by omega)
        have HST : Hid (Cl w (wr.setCell ⟨w.heap.size, k, none⟩ (.slice none 0 0)) n (k + 1) (fun r => if r = k then none else A' r) L (fun r => if r = k then 0 else C' r)) := by rw [h0] at hst; exact hst
        clear hst hsr hnl h0 h1 hLk hak hcl
        go_wp2_with (go_at_call 13; refine H.mono ?_; rintro e w' ⟨rfl, rfl⟩)
        go_roundw
        case rel => exact ⟨k + 1, _, _, by omega, by go_num, HST.out⟩
        case measure => simp [intOf]; omega
      | some x =>
        obtain ⟨d, hd, hxb⟩ : ∃ d : Nat → Int, (∀ i, i < L k → wr.cell? (x.add i) = some (.int .u8 (d i))) ∧ ∀ i, i < L k → x.block < wr.heap.size := by
          by_cases h0 : 0 < L k
          · obtain ⟨x', hx', hxl, d, hd⟩ := hsr h0
            obtain rfl := Option.some.inj hx'
            exact ⟨d, fun i hi => by rw [hcl.below.cell (by rw [add_block]; exact hxl)]; exact hd i hi, fun _ _ => Nat.lt_of_lt_of_le hxl hcl.below.size⟩
          · exact ⟨fun _ => 0, fun i hi => by omega, fun i hi => by omega⟩
        have H := clone_some x (L k) (C k) d wr (by omega) hd hxb
        clear hsr hnl hd hxb hak
        have HCL : Hid (Cl w wr n k A' L C') := hcl
        clear hcl
        go_wp2_with (go_at_call 13; refine H.mono ?_; rintro e w2 ⟨rfl, hr2, hb2⟩; obtain ⟨⟨v0, hv0⟩, hf0, hlt0⟩ := HCL.out.cell hlt hb2; have HR2 : Hid (w2.heap[wr.heap.size]? = some (.cells (byteCells (L k) d).toArray 5 (0, 0))) := hr2; clear hr2)
        have hst := HCL.out.step hlt hb2 (some ⟨wr.heap.size, 0, none⟩) (L k) (fun x hx => by cases hx; simp; omega) (fun h => ⟨_, rfl, lt_of_block HR2.out, d, fun j hj => by rw [show (⟨wr.heap.size, 0, none⟩ : Addr).add j = ⟨wr.heap.size, j, none⟩ by simp [Addr.add]; intro h; rw [h]]; exact row_bytes HR2.out j hj⟩)
        go_roundw
        case rel => exact ⟨k + 1, _, _, by omega, by go_num, hst⟩
        case measure => simp [intOf]; omega
    · obtain rfl : k = n := by omega
      go_wp2
      go_ret
      exact ⟨rfl, A', C', hcl⟩
end Go.Proofs.Qxb6602604a
