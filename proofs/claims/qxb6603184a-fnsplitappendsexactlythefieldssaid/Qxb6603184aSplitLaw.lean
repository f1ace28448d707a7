import Derived.Test.Qxb6603184aRoom
namespace Go.Proofs.Qxb6603184a
open Go.RowKit

/-- A bool is returned. -/
def SomeBool (e : Ending) : Prop := e = .returned (.bool false) ∨ e = .returned (.bool true)

set_option maxHeartbeats 1000000 in
theorem zz9_any (s : ByteArray) (ao : Option Addr) (n cap : Nat) (rm : Int) (F : Nat → ByteArray) (w : World) (hs : s.size ≤ maxLen) (hm : n ≤ maxLen) (hF : ∀ i, i < n → (F i).size ≤ maxLen) (hr : SRow w ao n F) :
    Calls Try.prog 9 #[.string s, .slice ao n cap, .int .u16 rm] w fun e w' => SomeBool e ∧ w' = w := by
  have HR : Hid (SRow w ao n F) := hr
  have HF : Hid (∀ i, i < n → (F i).size ≤ maxLen) := hF
  clear hr hF
  unfold maxLen at hs hm
  by_cases h0 : s.size ≤ 1048576
  rotate_left
  · go_enter Try.func9, Try.ntmps9
    go_wp2
    go_ret
    exact ⟨Or.inl rfl, rfl⟩
  by_cases h1 : n ≤ 1048576
  rotate_left
  · go_enter Try.func9, Try.ntmps9
    go_wp2
    go_ret
    exact ⟨Or.inl rfl, rfl⟩
  by_cases h2 : s.size + n ≤ 1048576
  rotate_left
  · go_enter Try.func9, Try.ntmps9
    go_wp2
    go_ret
    exact ⟨Or.inl rfl, rfl⟩
  have t0 : decide ((1048576 : Int) < (s.size : Int)) = false := decide_eq_false (by omega)
  have t1 : decide ((1048576 : Int) < (n : Int)) = false := decide_eq_false (by omega)
  have t2 : decide ((1048576 : Int) < (s.size : Int) + (n : Int)) = false := decide_eq_false (by omega)
  go_enter Try.func9, Try.ntmps9
  go_wp2
  go_loop [7, 8] (fun t i => ∃ k q : Nat, k ≤ n ∧ i = .int .i64 (k : Int) ∧ t = .int .i64 (q : Int) ∧ q ≤ 1048576) (fun _ i => n - (intOf i).toNat)
  case atStart => exact ⟨0, s.size + n, Nat.zero_le _, rfl, by go_num, h2⟩
  case round =>
    obtain ⟨k, q, hk, rfl, rfl, hq⟩ := hrel
    by_cases hlt : k < n
    · obtain ⟨b, off, rfl, hc⟩ := HR.out (by omega)
      have hck := hc k hlt
      have hLk := HF.out k hlt
      unfold maxLen at hLk
      obtain ⟨x, hx⟩ : ∃ x, x = F k := ⟨_, rfl⟩
      rw [← hx] at hck hLk
      clear hc HR HF hx
      by_cases h3 : x.size ≤ 1048576
      · by_cases h4 : q + x.size ≤ 1048576
        · go_wp2
          go_round
          case rel => exact ⟨k + 1, q + x.size, by omega, by go_num, by go_num, by omega⟩
          case measure => simp [intOf]; omega
        · go_wp2
          go_ret
          exact ⟨Or.inl rfl, rfl⟩
      · go_wp2
        go_ret
        exact ⟨Or.inl rfl, rfl⟩
    · obtain rfl : k = n := by omega
      go_wp2
      go_ret
      exact ⟨Or.inr rfl, rfl⟩

theorem fl_len (s : ByteArray) : ∀ (k i : Nat) (st : Option Nat), (fl s k i st).length ≤ k + st.toList.length
  | 0, _, none => by simp [fl]
  | 0, _, some _ => by simp [fl]
  | k + 1, i, none => by
    have h1 := fl_len s k (i + 1) none
    have h2 := fl_len s k (i + 1) (some i)
    simp only [fl]
    split <;> simp at * <;> omega
  | k + 1, i, some a => by
    have h1 := fl_len s k (i + 1) none
    have h2 := fl_len s k (i + 1) (some a)
    simp only [fl]
    split <;> simp at * <;> omega
theorem fields_len (s : ByteArray) : (fields s).length ≤ s.size := by have := fl_len s s.size 0 none; simpa [fields] using this

/-- The shape of an owned row, nil or not in one form. -/
theorem SO.form {B : Nat} {w : World} {v : Go.Value} {xs : List ByteArray} (h : SO B w v xs) : ∃ a cp, v = .slice a xs.length cp ∧ (0 < xs.length → ∃ g, a = some ⟨g, 0, none⟩) := by
  rcases h.shape with ⟨h1, h2⟩ | ⟨g, cp, h1, _, _⟩
  · exact ⟨none, 0, by rw [h1, h2]; rfl, fun h => by rw [h2] at h; simp at h⟩
  · exact ⟨some ⟨g, 0, none⟩, cp, h1, fun _ => ⟨g, rfl⟩⟩
theorem SO.some' {B : Nat} {w : World} {a : Option Addr} {n cp : Nat} {xs : List ByteArray} (h : SO B w (.slice a n cp) xs) (h0 : 0 < xs.length) : ∃ g, a = some ⟨g, 0, none⟩ ∧ n = xs.length := by
  rcases h.shape with ⟨_, h2⟩ | ⟨g, cp', h1, _, _⟩
  · rw [h2] at h0; simp at h0
  · injection h1 with h1 h2; exact ⟨g, h1, h2⟩
theorem SO.below {B : Nat} {w w' : World} {v : Go.Value} {xs : List ByteArray} (h : SO B w v xs) (hb : Below w.heap.size w w') : SO B w' v xs := by
  refine ⟨h.1, ?_⟩
  rcases h.2 with h1 | ⟨g, cp, cur, hv, hg, hh, r⟩
  · exact Or.inl h1
  · exact Or.inr ⟨g, cp, cur, hv, hg, by rw [hb.block g (lt_of_block hh)]; exact hh, r⟩

/-- What stands when got has been made: the clone u of Y, the fields T in v2, both in v3. -/
structure Got (w : World) (n : Nat) (Y T : List ByteArray) (a1 : Option Addr) (cp1 : Nat) (a2 : Option Addr) (cp2 : Nat) (a3 : Option Addr) (cp3 : Nat) (wr : World) : Prop where
  hY : Y.length = n
  one : SO w.heap.size wr (.slice a1 n cp1) Y
  two : SO w.heap.size wr (.slice a2 T.length cp2) T
  three : SO w.heap.size wr (.slice a3 (n + T.length) cp3) (Y ++ T)
  below : Below w.heap.size w wr
theorem Got.drewN {w : World} {n : Nat} {Y T : List ByteArray} {a1 : Option Addr} {cp1 : Nat} {a2 : Option Addr} {cp2 : Nat} {a3 : Option Addr} {cp3 : Nat} {wr : World} (h : Got w n Y T a1 cp1 a2 cp2 a3 cp3 wr) (q : Nat) : Got w n Y T a1 cp1 a2 cp2 a3 cp3 (wr.drewN q) :=
  ⟨h.hY, h.one, h.two, h.three, below_drewN h.below q⟩
theorem Got.cells2 {w : World} {n : Nat} {Y T : List ByteArray} {a1 : Option Addr} {cp1 : Nat} {a2 : Option Addr} {cp2 : Nat} {a3 : Option Addr} {cp3 : Nat} {wr : World} (h : Got w n Y T a1 cp1 a2 cp2 a3 cp3 wr) {i : Nat} (hi : i < n) :
    ∃ g1 g3 x, a1 = some ⟨g1, 0, none⟩ ∧ a3 = some ⟨g3, 0, none⟩ ∧ wr.cell? ⟨g1, i, none⟩ = some (.string x) ∧ wr.cell? ⟨g3, i, none⟩ = some (.string x) := by
  have hY := h.hY
  obtain ⟨g1, rfl, e1⟩ := h.one.some' (by omega)
  have hl : (Y ++ T).length = n + T.length := by rw [List.length_append]; omega
  obtain ⟨g3, rfl, e3⟩ := h.three.some' (by rw [hl]; omega)
  refine ⟨g1, g3, Y[i]'(by omega), rfl, rfl, ?_, ?_⟩
  · have := h.one; rw [e1] at this; exact this.cell i (by omega)
  · have := h.three; rw [e3] at this
    rw [this.cell i (by rw [hl]; omega), List.getElem_append_left (by omega)]
theorem Got.cells3 {w : World} {n : Nat} {Y T : List ByteArray} {a1 : Option Addr} {cp1 : Nat} {a2 : Option Addr} {cp2 : Nat} {a3 : Option Addr} {cp3 : Nat} {wr : World} (h : Got w n Y T a1 cp1 a2 cp2 a3 cp3 wr) {i : Nat} (hi : i < T.length) :
    ∃ g2 g3 x, a2 = some ⟨g2, 0, none⟩ ∧ a3 = some ⟨g3, 0, none⟩ ∧ wr.cell? ⟨g2, i, none⟩ = some (.string x) ∧ wr.cell? ⟨g3, n + i, none⟩ = some (.string x) := by
  have hY := h.hY
  obtain ⟨g2, rfl, _⟩ := h.two.some' (by omega)
  have hl : (Y ++ T).length = n + T.length := by rw [List.length_append]; omega
  obtain ⟨g3, rfl, e3⟩ := h.three.some' (by rw [hl]; omega)
  refine ⟨g2, g3, T[i], rfl, rfl, h.two.cell i hi, ?_⟩
  have := h.three; rw [e3] at this
  rw [this.cell (n + i) (by rw [hl]; omega), List.getElem_append_right (by omega)]
  simp [hY]

/-- From the three contracts to that state. -/
theorem got_of {w w1 w2 w3 : World} {n : Nat} {F : Nat → ByteArray} {T : List ByteArray} {a1 : Option Addr} {cp1 : Nat} {v2 v3 : Go.Value} (hb1 : Below w.heap.size w w1) (ho1 : SO w.heap.size w1 (.slice a1 n cp1) (listOf n F))
    (ho2 : SO w1.heap.size w2 v2 T) (hb2 : Below w1.heap.size w1 w2) (hsp : Sp w.heap.size w2 (.slice a1 n cp1) (listOf n F) w3 v3 (listOf n F ++ T)) :
    ∃ a2 cp2 a3 cp3, v2 = .slice a2 T.length cp2 ∧ v3 = .slice a3 (n + T.length) cp3 ∧ Got w n (listOf n F) T a1 cp1 a2 cp2 a3 cp3 w3 := by
  obtain ⟨a2, cp2, rfl, _⟩ := ho2.form
  obtain ⟨a3, cp3, h3, _⟩ := hsp.own.form
  rw [List.length_append, length_listOf] at h3
  subst h3
  refine ⟨a2, cp2, a3, cp3, rfl, rfl, length_listOf _ _, hsp.old, ?_, hsp.own, ?_⟩
  · have hk : SO w1.heap.size w3 (.slice a2 T.length cp2) T := by
      refine World.ownsRow.kept ho2 hsp.grown ?_
      cases hv : (Go.Value.slice a2 T.length cp2).ownBlock with
      | none => exact Or.inl rfl
      | some g2 =>
        right
        intro e
        have h1 := (ho2.lt hv).1
        have h2 := (ho1.lt e.symm).2
        omega
    rcases hk.2 with h1 | ⟨g, cp, cur, hv, hg, r⟩
    · exact ⟨hk.1, Or.inl h1⟩
    · exact ⟨hk.1, Or.inr ⟨g, cp, cur, hv, Nat.le_trans hb1.size hg, r⟩⟩
  · have hb12 : Below w.heap.size w w2 := hb1.trans (hb2.mono hb1.size)
    exact hb12.grown hsp.grown hb12.size (fun k hk => (ho1.lt hk).1)

set_option maxHeartbeats 2000000 in
theorem walkSplit (s : ByteArray) (ao : Option Addr) (n cap : Nat) (rm : Int) (F : Nat → ByteArray) (w : World) (hs : s.size ≤ maxLen) (hm : n ≤ maxLen) (hF : ∀ i, i < n → (F i).size ≤ maxLen) (hz : ao = none → n = 0 ∧ cap = 0) (hr : SRow w ao n F) (hr0 : 0 ≤ rm) (hr1 : rm ≤ 65535) :
    Calls Try.prog 3 #[.string s, .slice ao n cap, .int .u16 rm] w fun e w' => e = .returned (.bool true) ∧ Below w.heap.size w w' := by
  have H9 := zz9_any s ao n cap rm F w hs hm hF hr
  have HR : Hid (SRow w ao n F) := hr
  have HF : Hid (∀ i, i < n → (F i).size ≤ maxLen) := hF
  have HZ : Hid (ao = none → n = 0 ∧ cap = 0) := hz
  clear hr hF hz
  unfold maxLen at hs hm
  obtain ⟨room, rfl⟩ := Int.eq_ofNat_of_zero_le hr0
  have hroom : room ≤ 65535 := by omega
  clear hr0 hr1
  by_cases h0 : s.size ≤ 1048576
  rotate_left
  · go_enter Try.func3, Try.ntmps3
    go_wp2_with (go_at_call 9; refine H9.mono ?_; rintro e w' ⟨hbo, hw⟩; obtain rfl := hw.symm; clear H9 hw; rcases hbo with rfl | rfl)
    all_goals
      go_ret
      exact ⟨rfl, Below.refl _ _⟩
  by_cases h1 : n ≤ 65536
  rotate_left
  · go_enter Try.func3, Try.ntmps3
    go_wp2_with (go_at_call 9; refine H9.mono ?_; rintro e w' ⟨hbo, hw⟩; obtain rfl := hw.symm; clear H9 hw; rcases hbo with rfl | rfl)
    all_goals
      go_ret
      exact ⟨rfl, Below.refl _ _⟩
  by_cases h2 : s.size + 16 * n + 16 * room ≤ 1048576
  rotate_left
  · go_enter Try.func3, Try.ntmps3
    go_wp2_with (go_at_call 9; refine H9.mono ?_; rintro e w' ⟨hbo, hw⟩; obtain rfl := hw.symm; clear H9 hw; rcases hbo with rfl | rfl)
    all_goals
      go_ret
      exact ⟨rfl, Below.refl _ _⟩
  have t0 : decide ((1048576 : Int) < (s.size : Int)) = false := decide_eq_false (by omega)
  have t1 : decide ((65536 : Int) < (n : Int)) = false := decide_eq_false (by omega)
  have t2 : decide ((1048576 : Int) < (s.size : Int) + 16 * (n : Int) + 16 * (room : Int)) = false := decide_eq_false (by omega)
  go_enter Try.func3, Try.ntmps3
  go_wp2_with (go_at_call 9; refine H9.mono ?_; rintro e w' ⟨hbo, hw⟩; obtain rfl := hw.symm; clear H9 hw; rcases hbo with rfl | rfl)
  · go_ret
    exact ⟨rfl, Below.refl _ _⟩
  go_loop [7, 8] (fun t i => ∃ k q : Nat, k ≤ n ∧ i = .int .i64 (k : Int) ∧ t = .int .i64 (q : Int) ∧ q ≤ 1048576) (fun _ i => n - (intOf i).toNat)
  case atStart => exact ⟨0, s.size + 16 * n + 16 * room, Nat.zero_le _, rfl, by go_num, h2⟩
  case round =>
    obtain ⟨k, q, hk, rfl, rfl, hq⟩ := hrel
    by_cases hlt : k < n
    · obtain ⟨b, off, rfl, hc⟩ := HR.out (by omega)
      have hck := hc k hlt
      have hLk := HF.out k hlt
      unfold maxLen at hLk
      obtain ⟨x, hx⟩ : ∃ x, x = F k := ⟨_, rfl⟩
      rw [← hx] at hck hLk
      clear hc HR HF HZ hx
      by_cases h3 : x.size ≤ 1048576
      · by_cases h4 : q + x.size ≤ 1048576
        · go_wp2
          go_round
          case rel => exact ⟨k + 1, q + x.size, by omega, by go_num, by go_num, by omega⟩
          case measure => simp [intOf]; omega
        · go_wp2
          go_ret
          exact ⟨rfl, Below.refl _ _⟩
      · go_wp2
        go_ret
        exact ⟨rfl, Below.refl _ _⟩
    · obtain rfl : k = n := by omega
      have HRM : Hid (Calls Try.prog 10 #[.slice ao k cap, .int .i64 (room : Int)] w fun e w' => Room w w' k F e) := room_any ao k cap room F w (by omega) HZ.out HR.out
      clear HR HZ HF
      go_wp2_with (go_at_call 10; refine HRM.out.mono ?_; rintro e w1 hrm; clear HRM; obtain ⟨a1, cp1, rfl, ho1, hb1⟩ := hrm; have HO1 : Hid (SO w.heap.size w1 (.slice a1 k cp1) (listOf k F)) := ho1; have HB1 : Hid (Below w.heap.size w w1) := hb1; clear ho1 hb1)
      refine (zzFields_any s w1 h0).mono ?_
      rintro e w2 ⟨⟨v2, rfl, ho2⟩, hb2⟩
      have HO12 : Hid (SO w.heap.size w2 (.slice a1 k cp1) (listOf k F)) := HO1.out.below hb2
      have HO2 : Hid (SO w1.heap.size w2 v2 (fields s)) := ho2
      have HB2 : Hid (Below w1.heap.size w1 w2) := hb2
      have hsz2 : w.heap.size ≤ w2.heap.size := Nat.le_trans HB1.out.size hb2.size
      clear ho2 hb2
      go_wp2_with fail
      refine (zzsplit_any s w.heap.size a1 k cp1 (listOf k F) w2 h0 (by rw [length_listOf]; omega) hsz2 HO12.out).mono ?_
      rintro e w3 ⟨v3, rfl, hsp⟩
      obtain ⟨a2, cp2, a3, cp3, rfl, rfl, hgot⟩ := got_of HB1.out HO1.out HO2.out HB2.out hsp
      obtain ⟨t, ht⟩ : ∃ t, t = (fields s).length := ⟨_, rfl⟩
      have HG : Hid (Got w k (listOf k F) (fields s) a1 cp1 a2 cp2 a3 cp3 w3) := hgot
      have HT : Hid (t = (fields s).length) := ht
      rw [← ht]
      have htl : t ≤ 1048576 := by have := fields_len s; omega
      have hne : ((k : Int) + (t : Int) != (k : Int) + (t : Int)) = false := by simp
      clear hgot hsp HO1 HO12 HO2 HB1 HB2 hsz2 ht t0 t1 t2 hq hk hlt hs hm
      go_wp2_with fail
      go_loopw [11] (fun i wr => ∃ j : Nat, j ≤ k ∧ i = .int .i64 (j : Int) ∧ Hid (Got w k (listOf k F) (fields s) a1 cp1 a2 cp2 a3 cp3 wr)) (fun i _ => k - (intOf i).toNat)
      case atStart => exact ⟨0, Nat.zero_le _, rfl, HG⟩
      case round =>
        obtain ⟨j, hj, rfl, hg⟩ := hrel
        clear HG
        by_cases hjk : j < k
        · obtain ⟨g1, g3, x, rfl, rfl, hc1, hc3⟩ := hg.out.cells2 hjk
          have hj1 : (j : Int) < (k : Int) := by omega
          have hj2 : (j : Int) < (k : Int) + (t : Int) := by omega
          have hj3 : j < k + t := by omega
          have hgd := fun q => hg.out.drewN q
          have HGD : Hid (∀ q, Got w k (listOf k F) (fields s) (some ⟨g1, 0, none⟩) cp1 a2 cp2 (some ⟨g3, 0, none⟩) cp3 (wr.drewN q)) := hgd
          clear hgd hg
          go_wp2
          go_quiet (fail)
          go_wp2
          go_roundw
          case rel => exact ⟨j + 1, by omega, by go_num, HGD.out _⟩
          case measure => simp [intOf]; omega
        · go_wp2
          obtain ⟨wq, hwq⟩ : ∃ wq : World, wq = wr := ⟨_, rfl⟩
          subst hwq
          go_loopw [12] (fun i wr => ∃ j : Nat, j ≤ t ∧ i = .int .i64 (j : Int) ∧ Hid (Got w k (listOf k F) (fields s) a1 cp1 a2 cp2 a3 cp3 wr)) (fun i _ => t - (intOf i).toNat)
          case atStart => exact ⟨0, Nat.zero_le _, rfl, hg⟩
          case round =>
            obtain ⟨j2, hj2, rfl, hg2⟩ := hrel
            clear hg
            by_cases hjt : j2 < t
            · obtain ⟨g2, g3, x, rfl, rfl, hc2, hc3⟩ := hg2.out.cells3 (by rw [← HT.out]; exact hjt)
              have hj1 : (j2 : Int) < (t : Int) := by omega
              have hj4 : (k : Int) + (j2 : Int) < (k : Int) + (t : Int) := by omega
              have hj5 : k + j2 < k + t := by omega
              have HGD : Hid (∀ q, Got w k (listOf k F) (fields s) a1 cp1 (some ⟨g2, 0, none⟩) cp2 (some ⟨g3, 0, none⟩) cp3 (wr.drewN q)) := fun q => hg2.out.drewN q
              clear hg2
              go_wp2
              go_quiet (fail)
              go_wp2
              go_roundw
              case rel => exact ⟨j2 + 1, by omega, by go_num, HGD.out _⟩
              case measure => simp [intOf]; omega
            · go_wp2
              go_ret
              exact ⟨rfl, hg2.out.below⟩
end Go.Proofs.Qxb6603184a
