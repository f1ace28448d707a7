import Derived.Test.Qxb6602604aAtom
import Derived.Test.Qxb6602604aVal
namespace Go.Proofs.Qxb6602604a
open Go.RowKit

/-- The stack: a row of the call's own. -/
def Stk (B : Nat) (w : World) (v : Go.Value) (k : Nat) (ds : Nat → Int) : Prop := w.ownsRow B 5 1 v k (byteCells k ds)
theorem Stk.shape {B : Nat} {w : World} {v : Go.Value} {k : Nat} {ds : Nat → Int} (h : Stk B w v k ds) : (v = .slice none 0 0 ∧ k = 0) ∨ ∃ g cp, v = .slice (some ⟨g, 0, none⟩) k cp ∧ k ≤ cp := by
  rcases h.2 with h1 | ⟨g, cp, _, h1, _, _, h2, _⟩
  · exact Or.inl h1
  · exact Or.inr ⟨g, cp, h1, h2⟩
theorem Stk.top {B : Nat} {w : World} {g cp k : Nat} {ds : Nat → Int} (h : Stk B w (.slice (some ⟨g, 0, none⟩) (k + 1) cp) (k + 1) ds) : w.cell? ⟨g, k, none⟩ = some (.int .u8 (ds k)) := by
  rw [World.ownsRow.cellAt h k (by omega)]; simp [byteCells]
theorem Stk.pop {B : Nat} {w : World} {g cp k : Nat} {ds : Nat → Int} (h : Stk B w (.slice (some ⟨g, 0, none⟩) (k + 1) cp) (k + 1) ds) : Stk B w (.slice (some ⟨g, 0, none⟩) k cp) k ds := by
  have e : byteCells (k + 1) ds = byteCells k ds ++ [.int .u8 (ds k)] := by simp [byteCells, List.range_succ]
  refine ownsRow_pop (last := [.int .u8 (ds k)]) (by rw [length_byteCells]; omega) ?_
  rw [← e]; exact h
theorem Stk.fits {B : Nat} {w : World} {g cp k : Nat} {ds : Nat → Int} (h : Stk B w (.slice (some ⟨g, 0, none⟩) k cp) k ds) : k ≤ cp := by
  rcases h.2 with ⟨h1, _⟩ | ⟨g', cp', _, h1, _, _, h2, _⟩
  · cases h1
  · cases h1; exact h2

theorem wpl_push {w w0 : World} {ops : Array Oper} {rest : List Oper} {o : Oper} {a : Act} {Q : Exit → Act → World → Prop}
    (hg : o.guard = none) (s x : Operand) (hop : o.op = Op.call { callee := Callee.builtin Builtin.append, args := #[s, x], argTypes := #[24, 24] })
    (B : Nat) (v : Go.Value) (k : Nat) (ds : Nat → Int) (hs : a.eval s = v) (hown : Stk B w v k ds) (c : Int) (ad : Addr) (hx : a.eval x = .slice (some ad) 1 1) (hcell : w.cell? ad = some (.int .u8 c))
    (hk : k ≤ 16777216) (hB : B ≤ w.heap.size) (hb : Below B w0 w)
    (hK : ∀ g cp w', Hid (Stk B w' (.slice (some ⟨g, 0, none⟩) (k + 1) cp) (k + 1) (cat k ds fun _ => c)) → k + 1 ≤ cp → Hid (Below B w0 w') →
      wpList Try.prog ops Q rest (a.put o.dst (.slice (some ⟨g, 0, none⟩) (k + 1) cp)) w') :
    wpList Try.prog ops Q (o :: rest) a w := by
  obtain ⟨i0, hi, hz0, hz1, hz2⟩ := info_parts Try.info5
  refine wpList_append_own w hg s x 24 hop B 5 i0 (.int .u8 0) 1 1 Try.underlying24 hi hz0 hz1 hz2 rfl (by omega) v k (byteCells k ds) hs hown ad 1 1 (byteCells 1 fun _ => c) hx (by rw [length_byteCells]) ?_ (byteCells_one _ _) (by unfold maxLen; omega) (by omega) hB ?_
  · intro j u hu
    obtain ⟨hj, rfl⟩ := byteCells_get hu
    rw [show j = 0 by omega]
    simpa [Addr.add] using hcell
  · intro v' w' hown' hgrow _
    rw [byteCells_cat] at hown'
    have hst : Stk B w' v' (k + 1) (cat k ds fun _ => c) := hown'
    have hbw : Below B w0 w' := hb.grown hgrow hB (fun q hq => (World.ownsRow.lt hown q hq).1)
    rcases hst.shape with ⟨_, h0⟩ | ⟨g, cp, rfl, hle⟩
    · omega
    · exact hK g cp w' hst hle hbw

theorem stk_below {B k : Nat} {w w1 : World} {v : Go.Value} {ds : Nat → Int} (h : Stk B w v k ds) (hb : Below w.heap.size w w1) : Stk B w1 v k ds := by
  refine ⟨h.1, ?_⟩
  rcases h.2 with h1 | ⟨g, cp, cur, hv, hg, hh, r⟩
  · exact Or.inl h1
  · exact Or.inr ⟨g, cp, cur, hv, hg, by rw [hb.block g (lt_of_block hh)]; exact hh, r⟩

def Inv (d : Nat → Int) (n s : Nat) (want : Bool) (k p : Nat) : Prop := if want = true then InvT d n s k p else InvF d n s k p
/-- What jsonEnd answers: -1, or where a value ends. -/
def JE (d : Nat → Int) (n s : Nat) (e : Ending) : Prop := e = .returned (.int .i64 (-1)) ∨ ∃ r : Nat, e = .returned (.int .i64 (r : Int)) ∧ Value' d n s r

theorem stk_cell {w w0 : World} {b off n : Nat} {d : Nat → Int} (hb : Below w0.heap.size w0 w) (hc : ∀ i, i < n → w0.cell? ⟨b, off + i, none⟩ = some (.int .u8 (d i))) : ∀ i, i < n → w.cell? ⟨b, off + i, none⟩ = some (.int .u8 (d i)) := below_cells hb hc

set_option maxHeartbeats 4000000 in
set_option maxRecDepth 10000 in
theorem jsonEnd_any (b off n cap s : Nat) (d : Nat → Int) (w : World) (hn : n ≤ 4194304) (hs : s < n) (hc : ∀ i, i < n → w.cell? ⟨b, off + i, none⟩ = some (.int .u8 (d i))) :
    Calls Try.prog 23 #[.slice (some ⟨b, off, none⟩) n cap, .int .i64 s] w fun e w' => JE d n s e ∧ Below w.heap.size w w' := by
  have HC : Hid (∀ i, i < n → w.cell? ⟨b, off + i, none⟩ = some (.int .u8 (d i))) := hc
  clear hc
  go_enter Try.func23, Try.ntmps23
  go_wp2
  go_loopw [5, 6, 7] (fun v i q wr => ∃ (k p : Nat) (want : Bool) (ds : Nat → Int), i = .int .i64 (p : Int) ∧ q = .bool want ∧ k ≤ p ∧ p ≤ n ∧ Hid (Stk w.heap.size wr v k ds) ∧ Hid (Below w.heap.size w wr) ∧ Hid (Inv d n s want k p)) (fun _ i _ _ => n - (intOf i).toNat)
  case atStart => exact ⟨0, s, true, fun _ => 0, rfl, rfl, by omega, by omega, World.ownsRow_nil _ _ _ _, Below.refl _ _, InvT.start (by omega)⟩
  case round =>
    obtain ⟨k, p, want, ds, rfl, rfl, hkp, hpn, hstk, hbw, hinv⟩ := hrel
    have HCW : Hid (∀ i, i < n → wr.cell? ⟨b, off + i, none⟩ = some (.int .u8 (d i))) := below_cells hbw.out HC.out
    have hsz := hbw.out.size
    cases want with
    | true =>
      have HIT : Hid (InvT d n s k p) := hinv.out
      clear hinv
      by_cases hlt : p < n
      rotate_left
      · have t0 : decide ((n : Int) ≤ (p : Int)) = true := decide_eq_true (by omega)
        go_wp2
        go_ret
        exact ⟨Or.inl rfl, hbw.out⟩
      have hcp := HCW.out p hlt
      by_cases h91 : d p = 91
      · have HO : Hid (d p = 91) := h91
        rw [h91] at hcp
        clear h91
        by_cases hp1 : p + 1 < n
        · have hp1i : (p : Int) + 1 < (n : Int) := by omega
          by_cases hcl : d (p + 1) = 93
          · have HIF : Hid (InvF d n s k (p + 2)) := HIT.out.empty hp1 (Or.inl HO.out) (Or.inl hcl)
            have HCL : Hid (d (p + 1) = 93) := hcl
            clear hcl HIT
            go_wp2_with (at_builtin; refine wpl_push (w0 := w) rfl (.tmp 31) (.tmp 33) rfl w.heap.size _ k ds rfl (World.ownsRow.alloc hstk.out _) 91 ⟨wr.heap.size, 0, none⟩ rfl (by simp) (by omega) (by simp; omega) (hbw.out.alloc hsz _) ?_; intro g cp w1 hst1 hle1 hb1; have hcq : w1.cell? ⟨b, off + (p + 1), none⟩ = some (.int .u8 93) := by rw [below_cells hb1.out HC.out (p + 1) hp1, HCL.out])
            go_roundw
            case rel => exact ⟨k, p + 2, false, _, by go_num, rfl, by omega, by omega, hst1.out.pop, hb1, HIF⟩
            case measure => simp [intOf]; omega
          · have ecl : (d (p + 1) == 93) = false := by rw [beq_eq_false_iff_ne]; exact hcl
            clear hcl
            have HT2 : Hid (InvT d n s (k + 1) (p + 1)) := HIT.out.push hlt (Or.inl HO.out)
            clear HIT
            go_wp2_with (at_builtin; refine wpl_push (w0 := w) rfl (.tmp 31) (.tmp 33) rfl w.heap.size _ k ds rfl (World.ownsRow.alloc hstk.out _) 91 ⟨wr.heap.size, 0, none⟩ rfl (by simp) (by omega) (by simp; omega) (hbw.out.alloc hsz _) ?_; intro g cp w1 hst1 hle1 hb1; have hcq : w1.cell? ⟨b, off + (p + 1), none⟩ = some (.int .u8 (d (p + 1))) := below_cells hb1.out HC.out (p + 1) hp1)
            go_roundw
            case rel => exact ⟨k + 1, p + 1, true, _, by go_num, rfl, by omega, by omega, hst1, hb1, HT2⟩
            case measure => simp [intOf]; omega
        · have hp1i : decide ((p : Int) + 1 < (n : Int)) = false := decide_eq_false (by omega)
          have HT2 : Hid (InvT d n s (k + 1) (p + 1)) := HIT.out.push hlt (Or.inl HO.out)
          clear HIT
          go_wp2_with (at_builtin; refine wpl_push (w0 := w) rfl (.tmp 31) (.tmp 33) rfl w.heap.size _ k ds rfl (World.ownsRow.alloc hstk.out _) 91 ⟨wr.heap.size, 0, none⟩ rfl (by simp) (by omega) (by simp; omega) (hbw.out.alloc hsz _) ?_; intro g cp w1 hst1 hle1 hb1)
          go_roundw
          case rel => exact ⟨k + 1, p + 1, true, _, by go_num, rfl, by omega, by omega, hst1, hb1, HT2⟩
          case measure => simp [intOf]; omega
      by_cases h123 : d p = 123
      · have HO : Hid (d p = 123) := h123
        rw [h123] at hcp
        clear h123
        by_cases hp1 : p + 1 < n
        · have hp1i : (p : Int) + 1 < (n : Int) := by omega
          by_cases hcl : d (p + 1) = 125
          · have HIF : Hid (InvF d n s k (p + 2)) := HIT.out.empty hp1 (Or.inr HO.out) (Or.inr hcl)
            have HCL : Hid (d (p + 1) = 125) := hcl
            clear hcl HIT
            go_wp2_with (at_builtin; refine wpl_push (w0 := w) rfl (.tmp 31) (.tmp 33) rfl w.heap.size _ k ds rfl (World.ownsRow.alloc hstk.out _) 123 ⟨wr.heap.size, 0, none⟩ rfl (by simp) (by omega) (by simp; omega) (hbw.out.alloc hsz _) ?_; intro g cp w1 hst1 hle1 hb1; have hcq : w1.cell? ⟨b, off + (p + 1), none⟩ = some (.int .u8 125) := by rw [below_cells hb1.out HC.out (p + 1) hp1, HCL.out])
            go_roundw
            case rel => exact ⟨k, p + 2, false, _, by go_num, rfl, by omega, by omega, hst1.out.pop, hb1, HIF⟩
            case measure => simp [intOf]; omega
          · have ecl : (d (p + 1) == 125) = false := by rw [beq_eq_false_iff_ne]; exact hcl
            clear hcl
            go_wp2_with (at_builtin; refine wpl_push (w0 := w) rfl (.tmp 31) (.tmp 33) rfl w.heap.size _ k ds rfl (World.ownsRow.alloc hstk.out _) 123 ⟨wr.heap.size, 0, none⟩ rfl (by simp) (by omega) (by simp; omega) (hbw.out.alloc hsz _) ?_; intro g cp w1 hst1 hle1 hb1; have hcq : w1.cell? ⟨b, off + (p + 1), none⟩ = some (.int .u8 (d (p + 1))) := below_cells hb1.out HC.out (p + 1) hp1)
            refine (memberKey_any b off n cap (p + 1) _ (by omega) d w1 (by omega) (by omega) (below_cells hb1.out HC.out)).mono ?_
            rintro e w' ⟨he, hw⟩
            obtain rfl := hw.symm
            clear hw
            rcases he with rfl | ⟨j, rfl, hs1, hj, h58⟩
            · go_wp2
              go_ret
              exact ⟨Or.inl rfl, hb1.out⟩
            · have HT2 : Hid (InvT d n s (k + 1) (j + 1)) := HIT.out.key (Or.inr HO.out) hs1 hj h58
              have hjb := hs1.bounds
              clear HIT h58 hs1
              go_wp2
              go_roundw
              case rel => exact ⟨k + 1, j + 1, true, _, by go_num, rfl, by omega, by omega, hst1, hb1, HT2⟩
              case measure => simp [intOf]; omega
        · have hp1i : decide ((p : Int) + 1 < (n : Int)) = false := decide_eq_false (by omega)
          go_wp2_with (at_builtin; refine wpl_push (w0 := w) rfl (.tmp 31) (.tmp 33) rfl w.heap.size _ k ds rfl (World.ownsRow.alloc hstk.out _) 123 ⟨wr.heap.size, 0, none⟩ rfl (by simp) (by omega) (by simp; omega) (hbw.out.alloc hsz _) ?_; intro g cp w1 hst1 hle1 hb1)
          refine (memberKey_any b off n cap (p + 1) _ (by omega) d w1 (by omega) (by omega) (below_cells hb1.out HC.out)).mono ?_
          rintro e w' ⟨he, hw⟩
          obtain rfl := hw.symm
          clear hw
          rcases he with rfl | ⟨j, rfl, hs1, hj, h58⟩
          · go_wp2
            go_ret
            exact ⟨Or.inl rfl, hb1.out⟩
          · exact absurd hs1.1 hp1
      have e91 : (d p == 91) = false := by rw [beq_eq_false_iff_ne]; exact h91
      have e123 : (d p == 123) = false := by rw [beq_eq_false_iff_ne]; exact h123
      by_cases h34 : d p = 34
      · have H := stringEnd_any b off n cap p d wr (by omega) hlt HCW.out
        cases hq : qe d (n - (p + 1)) (p + 1) false with
        | none =>
          rw [hq] at H
          simp only [optI] at H
          rw [h34] at hcp
          clear hq h34 h91 h123 e91 e123
          go_wp2_with (go_at_call 26; refine H.mono ?_; rintro e w' ⟨rfl, hw⟩; obtain rfl := hw.symm; clear hw)
          go_ret
          exact ⟨Or.inl rfl, hbw.out⟩
        | some r =>
          rw [hq] at H
          simp only [optI] at H
          have hs1 : Str d n p r := ⟨hlt, h34, hq⟩
          have hrb := hs1.bounds
          have HIF : Hid (InvF d n s k r) := HIT.out.str hs1
          rw [h34] at hcp
          clear hq h34 h91 h123 hs1 HIT e91 e123
          go_wp2_with (go_at_call 26; refine H.mono ?_; rintro e w' ⟨rfl, hw⟩; obtain rfl := hw.symm; clear hw)
          go_roundw
          case rel => exact ⟨k, r, false, _, rfl, rfl, by omega, by omega, hstk, hbw, HIF⟩
          case measure => simp [intOf]; omega
      · have e34 : (d p == 34) = false := by rw [beq_eq_false_iff_ne]; exact h34
        have H := atomEnd_any b off n cap p d wr (by omega) hlt HCW.out
        clear h34 h91 h123
        go_wp2_with fail
        refine H.mono ?_
        rintro e w1 ⟨he, hb1⟩
        have HB1 : Hid (Below w.heap.size w w1) := hbw.out.trans (hb1.mono hsz)
        have HS1 : Hid (Stk w.heap.size w1 u5 k ds) := stk_below hstk.out hb1
        clear hb1 H
        rcases he with rfl | ⟨j, rfl, hat⟩
        · go_wp2
          go_ret
          exact ⟨Or.inl rfl, HB1.out⟩
        · have hj1 := hat.1
          have hj2 := hat.2.1
          have HIF : Hid (InvF d n s k j) := HIT.out.atom hat
          clear hat HIT
          go_wp2
          go_roundw
          case rel => exact ⟨k, j, false, _, rfl, rfl, by omega, by omega, HS1, HB1, HIF⟩
          case measure => simp [intOf]; omega
    | false =>
      have HIF : Hid (InvF d n s k p) := hinv.out
      clear hinv
      cases k with
      | zero =>
        have HV : Hid (Value' d n s p) := HIF.out.done
        clear HIF
        rcases hstk.out.shape with ⟨rfl, _⟩ | ⟨g, cp, rfl, _⟩
        all_goals
          go_wp2
          go_ret
          exact ⟨Or.inr ⟨p, rfl, HV.out⟩, hbw.out⟩
      | succ k =>
        obtain ⟨g, cp, rfl, hle⟩ : ∃ g cp, u5 = .slice (some ⟨g, 0, none⟩) (k + 1) cp ∧ k + 1 ≤ cp := by
          rcases hstk.out.shape with ⟨_, h0⟩ | h
          · omega
          · exact h
        have htop := hstk.out.top
        have HPOP : Hid (Stk w.heap.size wr (.slice (some ⟨g, 0, none⟩) k cp) k ds) := hstk.out.pop
        have hk0 : (((k + 1 : Nat) : Int) == 0) = false := by rw [beq_eq_false_iff_ne]; omega
        have hk1 : ((k : Int) + 1 == 0) = false := by rw [beq_eq_false_iff_ne]; omega
        by_cases hlt : p < n
        rotate_left
        · have t0 : decide ((n : Int) ≤ (p : Int)) = true := decide_eq_true (by omega)
          go_wp2
          go_ret
          exact ⟨Or.inl rfl, hbw.out⟩
        have hcp := HCW.out p hlt
        obtain ⟨tp, htp⟩ : ∃ tp, tp = ds k := ⟨_, rfl⟩
        rw [← htp] at htop
        clear htp
        by_cases h44 : d p = 44
        · rw [h44] at hcp
          have H44 : Hid (d p = 44) := h44
          clear h44
          by_cases ht : tp = 123
          · subst ht
            go_wp2_with fail
            refine (memberKey_any b off n cap (p + 1) _ (by omega) d wr (by omega) (by omega) HCW.out).mono ?_
            rintro e w' ⟨he, hw⟩
            obtain rfl := hw.symm
            clear hw
            rcases he with rfl | ⟨j, rfl, hs1, hj, h58⟩
            · go_wp2
              go_ret
              exact ⟨Or.inl rfl, hbw.out⟩
            · have HT2 : Hid (InvT d n s (k + 1) (j + 1)) := HIF.out.commaKey H44.out hs1 hj h58
              have hjb := hs1.bounds
              clear HIF h58 hs1
              go_wp2
              go_roundw
              case rel => exact ⟨k + 1, j + 1, true, ds, by go_num, rfl, by omega, by omega, hstk, hbw, HT2⟩
              case measure => simp [intOf]; omega
          · have et : (tp == 123) = false := by rw [beq_eq_false_iff_ne]; exact ht
            have HT2 : Hid (InvT d n s (k + 1) (p + 1)) := HIF.out.comma hlt H44.out
            clear ht HIF
            go_wp2
            go_roundw
            case rel => exact ⟨k + 1, p + 1, true, ds, by go_num, rfl, by omega, by omega, hstk, hbw, HT2⟩
            case measure => simp [intOf]; omega
        · have e44 : (d p == 44) = false := by rw [beq_eq_false_iff_ne]; exact h44
          by_cases hcl : d p = 93 ∨ d p = 125
          · have HF2 : Hid (InvF d n s k (p + 1)) := HIF.out.pop hlt hcl
            clear HIF e44 h44
            by_cases ht : tp = 91
            · subst ht
              rcases hcl with hcl | hcl
              · rw [hcl] at hcp
                clear hcl
                go_wp2
                go_roundw
                case rel => exact ⟨k, p + 1, false, ds, by go_num, rfl, by omega, by omega, HPOP, hbw, HF2⟩
                case measure => simp [intOf]; omega
              · rw [hcl] at hcp
                clear hcl
                go_wp2
                go_ret
                exact ⟨Or.inl rfl, hbw.out⟩
            · have et : (tp == 91) = false := by rw [beq_eq_false_iff_ne]; exact ht
              by_cases ht2 : tp = 123
              · subst ht2
                clear ht
                rcases hcl with hcl | hcl
                · rw [hcl] at hcp
                  clear hcl
                  go_wp2
                  go_ret
                  exact ⟨Or.inl rfl, hbw.out⟩
                · rw [hcl] at hcp
                  clear hcl
                  go_wp2
                  go_roundw
                  case rel => exact ⟨k, p + 1, false, ds, by go_num, rfl, by omega, by omega, HPOP, hbw, HF2⟩
                  case measure => simp [intOf]; omega
              · have et2 : (tp == 123) = false := by rw [beq_eq_false_iff_ne]; exact ht2
                clear ht ht2
                rcases hcl with hcl | hcl
                all_goals
                  rw [hcl] at hcp
                  clear hcl
                  go_wp2
                  go_ret
                  exact ⟨Or.inl rfl, hbw.out⟩
          · have e93 : (d p == 93) = false := by rw [beq_eq_false_iff_ne]; omega
            have e125 : (d p == 125) = false := by rw [beq_eq_false_iff_ne]; omega
            clear hcl h44 HIF
            by_cases ht : tp = 91
            · subst ht
              go_wp2
              go_ret
              exact ⟨Or.inl rfl, hbw.out⟩
            · have et : (tp == 91) = false := by rw [beq_eq_false_iff_ne]; exact ht
              by_cases ht2 : tp = 123
              · subst ht2
                clear ht et
                go_wp2
                go_ret
                exact ⟨Or.inl rfl, hbw.out⟩
              · have et2 : (tp == 123) = false := by rw [beq_eq_false_iff_ne]; exact ht2
                clear ht ht2
                go_wp2
                go_ret
                exact ⟨Or.inl rfl, hbw.out⟩
end Go.Proofs.Qxb6602604a
