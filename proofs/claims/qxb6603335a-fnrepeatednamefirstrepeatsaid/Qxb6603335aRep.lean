import Derived.Test.Qxb6603335aCmp
import Derived.Maps.Own
import Derived.Maps.OwnOps
import Derived.Maps.OwnSet
import Derived.Maps.Views
namespace Go.Proofs.Qxb6603335a
open Go.RowKit

/-- Bytes. -/
def Rng (l : Nat) (d : Nat → Int) : Prop := ∀ i, i < l → 0 ≤ d i ∧ d i ≤ 255
theorem conv_any (w : World) {a : Option Addr} {l c : Nat} {d : Nat → Int} (h : SlB w a l c d) : (convert 30 9 (.slice a l c)).run Try.prog w = .ok (.string (strOfNums (nl l d))) w := by
  rcases h with ⟨rfl, rfl, rfl⟩ | ⟨b, off, rfl, _, hc⟩
  · exact run_convert_bytes_nil w 30 5 Try.underlying30 Try.underlying5 0 0 9 Try.underlying9
  · refine run_convert_bytes_arg w 30 5 Try.underlying30 Try.underlying5 b off l c (nl l d) (nl_length l d) (fun i hi => ?_) 9 Try.underlying9
    rw [hc i hi]
    simp [nl, hi]

theorem byte_inj {x y : Int} (hx : 0 ≤ x ∧ x ≤ 255) (hy : 0 ≤ y ∧ y ≤ 255) (h : UInt8.ofNat x.toNat = UInt8.ofNat y.toNat) : x = y := by
  have h2 := congrArg UInt8.toNat h
  simp only [UInt8.toNat_ofNat'] at h2
  omega
theorem map_inj : ∀ {a b : List Int}, (∀ x ∈ a, 0 ≤ x ∧ x ≤ 255) → (∀ x ∈ b, 0 ≤ x ∧ x ≤ 255) → (a.map fun n => UInt8.ofNat n.toNat) = (b.map fun n => UInt8.ofNat n.toNat) → a = b
  | [], [], _, _, _ => rfl
  | [], _ :: _, _, _, h => by simp at h
  | _ :: _, [], _, _, h => by simp at h
  | x :: a, y :: b, ha, hb, h => by
    simp only [List.map_cons, List.cons.injEq] at h
    rw [byte_inj (ha x (by simp)) (hb y (by simp)) h.1, map_inj (fun z hz => ha z (by simp [hz])) (fun z hz => hb z (by simp [hz])) h.2]
theorem nl_rng {l : Nat} {d : Nat → Int} (h : Rng l d) : ∀ x ∈ nl l d, 0 ≤ x ∧ x ≤ 255 := by
  intro x hx
  simp [nl] at hx
  obtain ⟨i, hi, rfl⟩ := hx
  exact h i hi
theorem str_inj {l1 l2 : Nat} {d1 d2 : Nat → Int} (h1 : Rng l1 d1) (h2 : Rng l2 d2) (h : strOfNums (nl l1 d1) = strOfNums (nl l2 d2)) : nl l1 d1 = nl l2 d2 := by
  refine map_inj (nl_rng h1) (nl_rng h2) ?_
  have := congrArg (fun s : ByteArray => s.data.toList) h
  simpa [strOfNums_data] using this

theorem str_beq (x y : ByteArray) : (x.toList == y.toList) = decide (x = y) := by
  rw [ByteArray.toList_eq, ByteArray.toList_eq, Bool.eq_iff_iff, beq_iff_eq, decide_eq_true_eq]
  exact ⟨fun h => ByteArray.ext (Array.ext' h), fun h => by rw [h]⟩

set_option maxHeartbeats 400000 in
theorem equal_any (a1 : Option Addr) (l1 c1 : Nat) (d1 : Nat → Int) (a2 : Option Addr) (l2 c2 : Nat) (d2 : Nat → Int) (w : World) (h1 : SlB w a1 l1 c1 d1) (h2 : SlB w a2 l2 c2 d2) :
    Calls Try.prog 15 #[.slice a1 l1 c1, .slice a2 l2 c2] w fun e w' => e = .returned (.bool (decide (strOfNums (nl l1 d1) = strOfNums (nl l2 d2)))) ∧ w' = w := by
  have k1 := conv_any w h1
  have k2 := conv_any w h2
  obtain ⟨x, hx⟩ : ∃ x, x = strOfNums (nl l1 d1) := ⟨_, rfl⟩
  obtain ⟨y, hy⟩ : ∃ y, y = strOfNums (nl l2 d2) := ⟨_, rfl⟩
  rw [← hx] at k1 ⊢
  rw [← hy] at k2 ⊢
  clear hx hy h1 h2
  go_enter Try.func15, Try.ntmps15
  go_wp2
  go_ret
  exact ⟨by rw [← str_beq]; rfl, rfl⟩

/-! ### The members: three cells each -/
theorem Try.info37 : (Try.prog.info? 37).map (fun i => (i.zero, i.size, i.bytes)) = some (some (.agg #[.slice none 0 0, .slice none 0 0, .int .i64 0]), 3, 56) := by kernel_rfl
/-- The members' block: the first k have their names. -/
def MB (w : World) (g n k : Nat) (A : Nat → Option Addr) (L C : Nat → Nat) : Prop :=
  ∃ cur : List Value, w.heap[g]? = some (.cells cur.toArray 37 (0, 0)) ∧ cur.length = 3 * n ∧ ∀ r, r < n → cur[r * 3]? = some (if r < k then .slice (A r) (L r) (C r) else .slice none 0 0) ∧ cur[r * 3 + 1]? = some (.slice none 0 0) ∧ cur[r * 3 + 2]? = some (.int .i64 0)
theorem MB.lt {w : World} {g n k : Nat} {A : Nat → Option Addr} {L C : Nat → Nat} (h : MB w g n k A L C) : g < w.heap.size := by obtain ⟨cur, h1, _⟩ := h; exact lt_of_block h1
theorem MB.below {w w1 : World} {g n k : Nat} {A : Nat → Option Addr} {L C : Nat → Nat} (h : MB w g n k A L C) (hb : Below w.heap.size w w1) : MB w1 g n k A L C := by
  have hlt := h.lt
  obtain ⟨cur, h1, r⟩ := h
  exact ⟨cur, by rw [hb.block g hlt]; exact h1, r⟩
theorem MB.cells {w : World} {g n k : Nat} {A : Nat → Option Addr} {L C : Nat → Nat} (h : MB w g n k A L C) {r : Nat} (hr : r < n) :
    w.cell? ⟨g, r * 3, none⟩ = some (if r < k then .slice (A r) (L r) (C r) else .slice none 0 0) ∧ w.cell? ⟨g, r * 3 + 1, none⟩ = some (.slice none 0 0) ∧ w.cell? ⟨g, r * 3 + 2, none⟩ = some (.int .i64 0) := by
  obtain ⟨cur, h1, _, h3⟩ := h
  rw [row_cell h1, row_cell h1, row_cell h1]; exact h3 r hr
theorem MB.free {w : World} {g n k : Nat} {A : Nat → Option Addr} {L C : Nat → Nat} (h : MB w g n k A L C) (j : Nat) : w.frozen? ⟨g, j, none⟩ = false := by
  obtain ⟨cur, h1, _⟩ := h; exact row_free h1 j
theorem MB.step {w : World} {g n k : Nat} {A : Nat → Option Addr} {L C : Nat → Nat} (h : MB w g n k A L C) (hk : k < n) : MB (w.setCell ⟨g, k * 3, none⟩ (.slice (A k) (L k) (C k))) g n (k + 1) A L C := by
  obtain ⟨cur, h1, h2, h3⟩ := h
  refine ⟨cur.set (k * 3) (.slice (A k) (L k) (C k)), row_setCell h1, by simpa using h2, fun r hr => ?_⟩
  obtain ⟨q1, q2, q3⟩ := h3 r hr
  rw [List.getElem?_set_ne (show k * 3 ≠ r * 3 + 1 by omega), List.getElem?_set_ne (show k * 3 ≠ r * 3 + 2 by omega)]
  refine ⟨?_, q2, q3⟩
  by_cases e : r = k
  · subst e; rw [if_pos (by omega)]; simp [List.getElem?_set]; omega
  · rw [List.getElem?_set_ne (by omega), q1]
    by_cases hrk : r < k
    · rw [if_pos hrk, if_pos (by omega)]
    · rw [if_neg hrk, if_neg (by omega)]

/-- 'make([]jsonMember, n)'. -/
theorem wpl_makeM {w : World} {ops : Array Oper} {rest : List Oper} {o : Oper} {a : Act} {Q : Exit → Act → World → Prop}
    (hg : o.guard = none) (l c : Operand) (hop : o.op = Op.makeSlice 33 l c) (n : Nat) (X Y : Int) (hl : a.eval l = .int .i64 X) (hc : a.eval c = .int .i64 Y) (hL : X = (n : Int)) (hC : Y = (n : Int)) (hn : n ≤ 16777216) (A : Nat → Option Addr) (L C : Nat → Nat)
    (hK : ∀ w', Hid (MB w' w.heap.size n 0 A L C) → Hid (Below w.heap.size w w') → wpList Try.prog ops Q rest (a.put o.dst (.slice (some ⟨w.heap.size, 0, none⟩) n n)) w') :
    wpList Try.prog ops Q (o :: rest) a w := by
  obtain ⟨i0, hi, hz0, hz1, hz2⟩ := info_parts Try.info37
  refine wpList_make_full w hg l c 33 hop w.heap.size 37 i0 _ 3 Try.underlying33 hi hz0 hz1 .i64 .i64 X Y n hl hc hL hC (by rw [hz2]; omega) (by unfold maxLen; omega) (Nat.le_refl _) ?_
  intro w' hown hgrow
  refine hK w' ?_ ((Below.refl _ _).grown hgrow (Nat.le_refl _) (by simp))
  rcases hown.2 with ⟨h, _⟩ | ⟨g, cp, cur, hv, _, hh, _, _, hs, ht⟩
  · simp at h
  · simp at hv
    obtain ⟨rfl, rfl⟩ := hv
    have e : cur.toList = (madeCells (Value.agg #[.slice none 0 0, .slice none 0 0, .int .i64 0]).cells (n * 3)).toList := by
      rw [← ht]; exact (List.take_of_length_le (by simp [hs])).symm
    have get : ∀ j, j < n * 3 → cur.toList[j]? = some ((#[Value.slice none 0 0, Value.slice none 0 0, Value.int .i64 0])[j % 3]!) := by
      intro j hj
      rw [e]
      simp [madeCells, Value.cells, hj]
    refine ⟨cur.toList, by simpa using hh, by simp [hs]; omega, fun r hr => ⟨?_, ?_, ?_⟩⟩
    · rw [get _ (by omega), if_neg (by omega), show r * 3 % 3 = 0 by omega]; rfl
    · rw [get _ (by omega), show (r * 3 + 1) % 3 = 1 by omega]; rfl
    · rw [get _ (by omega), show (r * 3 + 2) % 3 = 2 by omega]; rfl

/-- What repeatedName answers. -/
def RE (N : Nat → List Int) (n : Nat) (e : Ending) : Prop :=
  (e = .returned (.tuple #[.string ByteArray.empty, .bool false]) ∧ First N n none) ∨ ∃ j : Nat, e = .returned (.tuple #[.string (strOfNums (N j)), .bool true]) ∧ First N n (some j)

end Go.Proofs.Qxb6603335a
