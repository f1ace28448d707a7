import Derived.Test.Qxb6603184aSplit
import Derived.Deep.QuietTactic
import Derived.BigQuiet
namespace Go.Proofs.Qxb6603184a
open Go.RowKit

/-- A row of strings that came in. -/
def SRow (w : World) (a : Option Addr) (n : Nat) (F : Nat → ByteArray) : Prop := 0 < n → ∃ b off, a = some ⟨b, off, none⟩ ∧ ∀ i, i < n → w.cell? ⟨b, off + i, none⟩ = some (.string (F i))
def listOf (n : Nat) (F : Nat → ByteArray) : List ByteArray := (List.range n).map F
theorem length_listOf (n : Nat) (F : Nat → ByteArray) : (listOf n F).length = n := by simp [listOf]

/-- The row while it is filled. -/
def Fil (w0 w : World) (m k : Nat) (F : Nat → ByteArray) : Prop :=
  Below w0.heap.size w0 w ∧ ∃ cur : List Go.Value, w.heap[w0.heap.size]? = some (.cells cur.toArray 9 (0, 0)) ∧ cur.length = m ∧ ∀ r, r < k → cur[r]? = some (.string (F r))

theorem row_cell {w : World} {g : Nat} {L : List Go.Value} {t : TypeId} (h : w.heap[g]? = some (.cells L.toArray t (0, 0))) (j : Nat) : w.cell? ⟨g, j, none⟩ = L[j]? := by
  simp [World.cell?, h]
theorem row_free {w : World} {g : Nat} {L : List Go.Value} {t : TypeId} (h : w.heap[g]? = some (.cells L.toArray t (0, 0))) (j : Nat) : w.frozen? ⟨g, j, none⟩ = false := by
  simp [World.frozen?, h]
theorem row_setCell {w : World} {g k : Nat} {cur : List Go.Value} {v : Go.Value} {t : TypeId} (h : w.heap[g]? = some (.cells cur.toArray t (0, 0))) :
    (w.setCell ⟨g, k, none⟩ v).heap[g]? = some (.cells (cur.set k v).toArray t (0, 0)) := by
  have hlt := lt_of_block h
  have h' : w.heap[g] = .cells cur.toArray t (0, 0) := by simpa [Array.getElem?_eq_getElem hlt] using h
  show (w.heap.modify g _)[g]? = _
  rw [Array.getElem?_eq_getElem (by simpa using hlt), Array.getElem_modify_self, h']
  simp

theorem Fil.cell {w0 w : World} {m k : Nat} {F : Nat → ByteArray} (h : Fil w0 w m k F) (hk : k < m) : (∃ v, w.cell? ⟨w0.heap.size, k, none⟩ = some v) ∧ w.frozen? ⟨w0.heap.size, k, none⟩ = false := by
  obtain ⟨_, cur, h1, h2, _⟩ := h
  exact ⟨⟨cur[k]'(by omega), by rw [row_cell h1, List.getElem?_eq_getElem (by omega)]⟩, row_free h1 k⟩
theorem Fil.step {w0 w : World} {m k : Nat} {F : Nat → ByteArray} (h : Fil w0 w m k F) (hk : k < m) : Fil w0 (w.setCell ⟨w0.heap.size, k, none⟩ (.string (F k))) m (k + 1) F := by
  obtain ⟨h0, cur, h1, h2, h3⟩ := h
  refine ⟨h0.setCell (Nat.le_refl _) _, cur.set k (.string (F k)), row_setCell h1, by simpa using h2, fun r hr => ?_⟩
  by_cases e : r = k
  · subst e; simp [List.getElem?_set]; omega
  · rw [List.getElem?_set_ne (by omega)]; exact h3 r (by omega)
theorem Fil.done {w0 w : World} {m n : Nat} {F : Nat → ByteArray} (h : Fil w0 w m n F) (hn : n ≤ m) (hm : m ≤ maxLen) : SO w0.heap.size w (.slice (some ⟨w0.heap.size, 0, none⟩) n m) (listOf n F) := by
  obtain ⟨_, cur, h1, h2, h3⟩ := h
  unfold SO
  rw [length_listOf]
  refine ⟨by rw [length_strs, length_listOf]; omega, Or.inr ⟨w0.heap.size, m, cur.toArray, rfl, Nat.le_refl _, h1, hn, hm, by simp [h2], ?_⟩⟩
  apply List.ext_getElem?
  intro j
  rw [List.getElem?_take]
  by_cases hj : j < n
  · rw [if_pos (by omega)]
    simp only [strs, listOf, List.map_map]
    rw [List.getElem?_map, List.getElem?_range hj]
    exact h3 j hj
  · rw [if_neg (by omega), List.getElem?_eq_none (by rw [length_strs, length_listOf]; omega)]

theorem wpl_make2 {w : World} {ops : Array Oper} {rest : List Oper} {o : Oper} {a : Act} {Q : Exit → Act → World → Prop}
    (hg : o.guard = none) (l c : Operand) (hop : o.op = Op.makeSlice 22 l c) (n m : Nat) (L C : Int) (hl : a.eval l = .int .i64 L) (hc : a.eval c = .int .i64 C) (hL : L = (n : Int)) (hC : C = (m : Int)) (hnm : n ≤ m) (hm : m ≤ 16777216) (F : Nat → ByteArray)
    (hK : ∀ w', Hid (Fil w w' m 0 F) → wpList Try.prog ops Q rest (a.put o.dst (.slice (some ⟨w.heap.size, 0, none⟩) n m)) w') :
    wpList Try.prog ops Q (o :: rest) a w := by
  obtain ⟨i0, hi, hz0, hz1, hz2⟩ := info_parts Try.info9
  subst hL; subst hC
  have hrun := run_make (P := Try.prog) w 22 9 i0 (.string ByteArray.empty) Try.underlying22 hi hz0 .i64 .i64 (n : Int) (m : Int) (by omega) (by omega) (by rw [hz2]; omega) (by omega)
  refine wpList_plain hg fun K hK' => ?_
  unfold Oper.wp
  simp only [Int.toNat_natCast] at hrun
  simp [execOp, hop, hl, hc, hrun, Result.andThen]
  refine hK' _ _ (hK _ ⟨(Below.refl _ _).alloc (Nat.le_refl _) _, (madeCells (Go.Value.string ByteArray.empty).cells (m * i0.size)).toList, ?_, ?_, fun r hr => absurd hr (Nat.not_lt_zero r)⟩)
  · show (w.heap.push _)[w.heap.size]? = _
    simp
  · rw [hz1]; simp [madeCells]

theorem eqNil22 (w : World) (a : Option Addr) (n c : Nat) : (binOp .eql 22 (.slice a n c) (.slice none 0 0)).run Try.prog w = .ok (.bool a.isNone) w := Lib.run_eql_slice_nil w 22 9 a n c 0 0 Try.underlying22

/-- What zzb1CloneRoom leaves. -/
def Room (w w' : World) (n : Nat) (F : Nat → ByteArray) (e : Ending) : Prop := ∃ a cp, e = .returned (.slice a n cp) ∧ SO w.heap.size w' (.slice a n cp) (listOf n F) ∧ Below w.heap.size w w'

set_option maxHeartbeats 1000000 in
theorem room_any (ao : Option Addr) (n cap room : Nat) (F : Nat → ByteArray) (w : World) (hn : n + room ≤ 1048576) (hz : ao = none → n = 0 ∧ cap = 0) (hr : SRow w ao n F) :
    Calls Try.prog 10 #[.slice ao n cap, .int .i64 (room : Int)] w fun e w' => Room w w' n F e := by
  have q := eqNil22
  have HR : Hid (SRow w ao n F) := hr
  clear hr
  cases ao with
  | none =>
    obtain ⟨rfl, rfl⟩ := hz rfl
    clear hz
    go_enter Try.func10, Try.ntmps10
    go_wp2
    go_ret
    exact ⟨none, 0, rfl, SO.nil _ _, Below.refl _ _⟩
  | some x =>
    clear hz
    go_enter Try.func10, Try.ntmps10
    go_wp2_with (at_make; refine wpl_make2 rfl (.tmp 10) (.tmp 14) rfl n (n + room) _ _ rfl rfl rfl (by omega) (by omega) (by omega) F ?_; intro w1 hfil)
    go_loopw [6] (fun i wr => ∃ k : Nat, k ≤ n ∧ i = .int .i64 (k : Int) ∧ Hid (Fil w wr (n + room) k F)) (fun i _ => n - (intOf i).toNat)
    case atStart => exact ⟨0, Nat.zero_le _, rfl, hfil⟩
    case round =>
      obtain ⟨k, hk, rfl, hf⟩ := hrel
      clear hfil
      by_cases hlt : k < n
      · obtain ⟨b, off, e, hc⟩ := HR.out (by omega)
        obtain rfl := Option.some.inj e
        have hck : wr.cell? ⟨b, off + k, none⟩ = some (.string (F k)) := by rw [hf.out.1.cell (World.block_lt_of_cell? _ _ (hc k hlt))]; exact hc k hlt
        obtain ⟨⟨v0, hv0⟩, hf0⟩ := hf.out.cell (show k < n + room by omega)
        have HST : Hid (Fil w (wr.setCell ⟨w.heap.size, k, none⟩ (.string (F k))) (n + room) (k + 1) F) := hf.out.step (by omega)
        clear hc HR
        go_wp2
        go_roundw
        case rel => exact ⟨k + 1, by omega, by go_num, HST⟩
        case measure => simp [intOf]; omega
      · obtain rfl : k = n := by omega
        go_wp2
        go_ret
        exact ⟨_, _, rfl, hf.out.done (by omega) (by unfold maxLen; omega), hf.out.1⟩

set_option maxHeartbeats 400000 in
theorem zzsplit_any (s : ByteArray) (B : Nat) (a : Option Addr) (n cp : Nat) (ys : List ByteArray) (w : World) (hn : s.size ≤ 1048576) (hy : ys.length ≤ 1048576) (hB : B ≤ w.heap.size) (hu : SO B w (.slice a n cp) ys) :
    Calls Try.prog 12 #[.string s, .slice a n cp] w fun e w' => ∃ v, e = .returned v ∧ Sp B w (.slice a n cp) ys w' v (ys ++ fields s) := by
  have H := split_any s B (.slice a n cp) ys w hn hy hB hu
  clear hu
  go_enter Try.func12, Try.ntmps12
  go_wp2_with fail
  refine H.mono ?_
  rintro e w1 ⟨v, rfl, hsp⟩
  have HSP : Hid (Sp B w (.slice a n cp) ys w1 v (ys ++ fields s)) := hsp
  clear hsp H
  go_wp2
  go_ret
  exact ⟨v, rfl, HSP.out⟩
end Go.Proofs.Qxb6603184a
