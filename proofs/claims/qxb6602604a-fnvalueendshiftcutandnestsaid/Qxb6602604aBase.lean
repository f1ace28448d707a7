import Derived.Test.Qxb6602604aRows
import Derived.WalkKit
import Derived.WalkSpells
import Derived.WalkLawsBesides
import Derived.Laws.CopyOwn
namespace Go.Proofs.Qxb6602604a
open Go.RowKit

theorem Try.info5 : (Try.prog.info? 5).map (fun i => (i.zero, i.size, i.bytes)) = some (some (.int .u8 0), 1, 1) := by kernel_rfl
theorem Try.info24 : (Try.prog.info? 24).map (fun i => (i.zero, i.size, i.bytes)) = some (some (.slice none 0 0), 1, 24) := by kernel_rfl

/-- The cells of a row of bytes. -/
def byteCells (n : Nat) (d : Nat → Int) : List Value := (List.range n).map fun i => .int .u8 (d i)
theorem length_byteCells (n : Nat) (d : Nat → Int) : (byteCells n d).length = n := by simp [byteCells]
theorem byteCells_get {n : Nat} {d : Nat → Int} {j : Nat} {v : Value} (h : (byteCells n d)[j]? = some v) : j < n ∧ v = .int .u8 (d j) := by
  unfold byteCells at h
  rw [List.getElem?_map] at h
  by_cases hj : j < n
  · rw [List.getElem?_range hj] at h; simp at h; exact ⟨hj, h.symm⟩
  · rw [List.getElem?_eq_none (by simpa using hj)] at h; simp at h
theorem byteCells_one (n : Nat) (d : Nat → Int) : ∀ v ∈ byteCells n d, v.oneCell' = true := by
  intro v hv
  simp [byteCells] at hv
  obtain ⟨i, _, rfl⟩ := hv
  rfl

theorem row_cell {w : World} {g : Nat} {L : List Value} {t : TypeId} (h : w.heap[g]? = some (.cells L.toArray t (0, 0))) (j : Nat) : w.cell? ⟨g, j, none⟩ = L[j]? := by
  simp [World.cell?, h]
theorem row_free {w : World} {g : Nat} {L : List Value} {t : TypeId} (h : w.heap[g]? = some (.cells L.toArray t (0, 0))) (j : Nat) : w.frozen? ⟨g, j, none⟩ = false := by
  simp [World.frozen?, h]
theorem row_bytes {w : World} {g n : Nat} {d : Nat → Int} {t : TypeId} (h : w.heap[g]? = some (.cells (byteCells n d).toArray t (0, 0))) (j : Nat) (hj : j < n) : w.cell? ⟨g, j, none⟩ = some (.int .u8 (d j)) := by
  rw [row_cell h, byteCells, List.getElem?_map, List.getElem?_range hj]; rfl

theorem splice_all {α : Type} (L cs : List α) (h : L.length = cs.length) : splice L 0 cs = cs := by
  unfold splice; rw [Nat.zero_add, ← h]; simp

theorem eqNil24 (w : World) (a : Option Addr) (n c : Nat) : (binOp .eql 24 (.slice a n c) (.slice none 0 0)).run Try.prog w = .ok (.bool a.isNone) w := Lib.run_eql_slice_nil w 24 5 a n c 0 0 Try.underlying24
theorem eqNil22 (w : World) (a : Option Addr) (n c : Nat) : (binOp .eql 22 (.slice a n c) (.slice none 0 0)).run Try.prog w = .ok (.bool a.isNone) w := Lib.run_eql_slice_nil w 22 24 a n c 0 0 Try.underlying22

set_option maxHeartbeats 400000 in
theorem clone_nil (w : World) : Calls Try.prog 13 #[.slice none 0 0] w fun e w' => e = .returned (.slice none 0 0) ∧ w' = w := by
  have q := eqNil24
  go_enter Try.func13, Try.ntmps13
  go_wp2
  go_ret
  exact ⟨rfl, rfl⟩

theorem made_row {w w1 : World} {n : Nat} {X : List Value} {t : TypeId} (hown : w1.ownsRow w.heap.size t 1 (.slice (some ⟨w.heap.size, 0, none⟩) n n) n X) (hgrow : w.grownBy w1 none) :
    ∃ cur : List Value, w1.heap[w.heap.size]? = some (.cells cur.toArray t (0, 0)) ∧ cur.length = n ∧ Below w.heap.size w w1 := by
  obtain ⟨hl1, h2⟩ := hown
  have hb1 : Below w.heap.size w w1 := (Below.refl _ _).grown hgrow (Nat.le_refl _) (by simp)
  rcases h2 with ⟨h, _⟩ | ⟨g, cp, cur, hv, _, hh, _, _, hs, _⟩
  · simp at h
  · simp at hv; obtain ⟨rfl, rfl⟩ := hv; exact ⟨cur.toList, by simpa using hh, by simpa using hs, hb1⟩

theorem add_block (a : Addr) (j : Nat) : (a.add j).block = a.block := by unfold Addr.add; split <;> rfl

theorem clone_src {w w1 : World} {a : Addr} {n : Nat} {d : Nat → Int} (hb1 : Below w.heap.size w w1) (hc : ∀ i, i < n → w.cell? (a.add i) = some (.int .u8 (d i))) (hb : ∀ i, i < n → a.block < w.heap.size) :
    ∀ j v, (byteCells n d)[j]? = some v → w1.cell? (a.add j) = some v := by
  intro j v hv
  obtain ⟨hj, rfl⟩ := byteCells_get hv
  rw [hb1.cell (by rw [add_block]; exact hb j hj)]
  exact hc j hj

set_option maxHeartbeats 400000 in
theorem clone_some (a : Addr) (n cap : Nat) (d : Nat → Int) (w : World) (hn : n ≤ 4194304) (hc : ∀ i, i < n → w.cell? (a.add i) = some (.int .u8 (d i))) (hb : ∀ i, i < n → a.block < w.heap.size) :
    Calls Try.prog 13 #[.slice (some a) n cap] w fun e w' => e = .returned (.slice (some ⟨w.heap.size, 0, none⟩) n n) ∧
      w'.heap[w.heap.size]? = some (.cells (byteCells n d).toArray 5 (0, 0)) ∧ Below w.heap.size w w' := by
  obtain ⟨i0, hi, hz0, hz1, hz2⟩ := info_parts Try.info5
  have q := eqNil24
  have hm : n ≤ maxLen := by unfold maxLen; omega
  have HC : Hid (∀ i, i < n → w.cell? (a.add i) = some (.int .u8 (d i))) := hc
  have HB : Hid (∀ i, i < n → a.block < w.heap.size) := hb
  clear hc hb
  go_enter Try.func13, Try.ntmps13
  go_wp2_with (first
    | (at_make; refine wpList_make_full _ rfl (.tmp 7) (.tmp 7) 24 rfl w.heap.size 5 i0 (.int .u8 0) 1 Try.underlying24 hi hz0 hz1 .i64 .i64 n n n rfl rfl rfl rfl (by rw [hz2]; omega) hm (Nat.le_refl _) ?_; intro w1 hown hgrow; obtain ⟨cur, hcur, hsz, hb1⟩ := made_row hown hgrow; clear hown hgrow)
    | (refine wpList_copy_splice rfl (.tmp 9) (.tmp 10) 24 24 rfl 5 Try.underlying24 (by rw [hi]; simp [hz1]) (some ⟨w.heap.size, 0, none⟩) (some a) n n n cap rfl rfl w.heap.size 0 cur 5 hcur (byteCells n d) (by rw [length_byteCells]; exact (Nat.min_self n).symm) (fun _ => ⟨rfl, a, rfl, clone_src hb1 HC.out HB.out⟩) (by rw [length_byteCells, hsz]; omega) (byteCells_one n d) w.heap.size w hb1 (Nat.le_refl _) ?_; intro w2 hrow hb2; rw [splice_all _ _ (by rw [length_byteCells, hsz])] at hrow))
  go_ret
  exact ⟨rfl, hrow.out, hb2⟩
end Go.Proofs.Qxb6602604a
