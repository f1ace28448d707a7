import Derived.Test.Qxb6603335aMerge
namespace Go.Proofs.Qxb6603335a
open Go.RowKit

theorem made_zero (n : Nat) : (madeCells (Value.int .i64 0).cells n).toList = (List.range n).map fun _ => Value.int .i64 0 := by
  simp [madeCells, Value.cells]
  intro a _
  rw [Nat.mod_one]; rfl

/-- 'make([]int, n)'. -/
theorem wpl_makeI {w : World} {ops : Array Oper} {rest : List Oper} {o : Oper} {a : Act} {Q : Exit → Act → World → Prop}
    (hg : o.guard = none) (l c : Operand) (hop : o.op = Op.makeSlice 39 l c) (n : Nat) (L C : Int) (hl : a.eval l = .int .i64 L) (hc : a.eval c = .int .i64 C) (hL : L = (n : Int)) (hC : C = (n : Int)) (hn : n ≤ 16777216)
    (hK : ∀ w', Hid (IA w' w.heap.size n (fun _ => 0)) → Hid (Below w.heap.size w w') → wpList Try.prog ops Q rest (a.put o.dst (.slice (some ⟨w.heap.size, 0, none⟩) n n)) w') :
    wpList Try.prog ops Q (o :: rest) a w := by
  obtain ⟨i0, hi, hz0, hz1, hz2⟩ := info_parts Try.info3
  refine wpList_make_full w hg l c 39 hop w.heap.size 3 i0 (.int .i64 0) 1 Try.underlying39 hi hz0 hz1 .i64 .i64 L C n hl hc hL hC (by rw [hz2]; omega) (by unfold maxLen; omega) (Nat.le_refl _) ?_
  intro w' hown hgrow
  refine hK w' ?_ ((Below.refl _ _).grown hgrow (Nat.le_refl _) (by simp))
  rcases hown.2 with ⟨h, _⟩ | ⟨g, cp, cur, hv, _, hh, _, _, hs, ht⟩
  · simp at h
  · simp at hv
    obtain ⟨rfl, rfl⟩ := hv
    refine ⟨cur.toList, by simpa using hh, by simpa using hs, fun k hk => ?_⟩
    have e : cur.toList = (List.range n).map fun _ => Value.int .i64 0 := by
      rw [← made_zero n]
      have : cur.toList.take (n * 1) = cur.toList := List.take_of_length_le (by simp [hs])
      rw [← this, ht, Nat.mul_one]
    rw [e, List.getElem?_map, List.getElem?_range hk]; rfl

/-- What firstRepeat answers. -/
def FRE (N : Nat → List Int) (n : Nat) (e : Ending) : Prop :=
  (e = .returned (.tuple #[.int .i64 0, .bool false]) ∧ First N n none) ∨ ∃ j : Nat, e = .returned (.tuple #[.int .i64 (j : Int), .bool true]) ∧ First N n (some j)

def optI : Option Nat → Int
  | none => -1
  | some r => r

theorem Best.no {N : Nat → List Int} {s : Nat → Nat} {k : Nat} {b : Option Nat} (h : Best N s (k + 1) b) (hne : N (s k) ≠ N (s (k + 1))) : Best N s (k + 2) b := by
  cases b with
  | none =>
    intro q q1 q2
    by_cases e : q = k + 1
    · subst e; simpa using hne
    · exact h q q1 (by omega)
  | some b =>
    obtain ⟨⟨q, q1, q2, q3, q4⟩, hm⟩ := h
    refine ⟨⟨q, q1, by omega, q3, q4⟩, fun q q1 q2 qe => ?_⟩
    by_cases e : q = k + 1
    · subst e; exact absurd (by simpa using qe) hne
    · exact hm q q1 (by omega) qe
theorem Best.new {N : Nat → List Int} {s : Nat → Nat} {k : Nat} {b : Option Nat} (h : Best N s (k + 1) b) (he : N (s k) = N (s (k + 1))) (hb : ∀ x, b = some x → s (k + 1) < x) : Best N s (k + 2) (some (s (k + 1))) := by
  refine ⟨⟨k + 1, by omega, by omega, rfl, by simpa using he⟩, fun q q1 q2 qe => ?_⟩
  by_cases e : q = k + 1
  · subst e; exact Nat.le_refl _
  · cases b with
    | none => exact absurd qe (h q q1 (by omega))
    | some x => have := h.2 q q1 (by omega) qe; have := hb x rfl; omega
theorem Best.old {N : Nat → List Int} {s : Nat → Nat} {k x : Nat} (h : Best N s (k + 1) (some x)) (hb : x ≤ s (k + 1)) : Best N s (k + 2) (some x) := by
  obtain ⟨⟨q, q1, q2, q3, q4⟩, hm⟩ := h
  refine ⟨⟨q, q1, by omega, q3, q4⟩, fun q q1 q2 qe => ?_⟩
  by_cases e : q = k + 1
  · subst e; exact hb
  · exact hm q q1 (by omega) qe

set_option maxHeartbeats 8000000 in
set_option maxRecDepth 10000 in
theorem firstRepeat_any (ao : Option Addr) (n cn : Nat) (A : Nat → Option Addr) (L C : Nat → Nat) (D : Nat → Nat → Int) (w : World) (hn : n ≤ 65536) (hN : Nm w ao n A L C D) (hL : ∀ r, r < n → L r ≤ 1048576) :
    Calls Try.prog 9 #[.slice ao n cn] w fun e w' => FRE (fun r => nl (L r) (D r)) n e ∧ Below w.heap.size w w' := by
  have HN : Hid (Nm w ao n A L C D) := hN
  have HL : Hid (∀ r, r < n → L r ≤ 1048576) := hL
  clear hN hL
  go_enter Try.func9, Try.ntmps9
  go_wp2_with (at_make; refine wpl_makeI rfl (.tmp 16) (.tmp 16) rfl n _ _ rfl rfl rfl rfl (by omega) ?_; intro w1 hia1 hb1)
  go_loopw [6] (fun i wr => ∃ (k : Nat) (s : Nat → Nat), k ≤ n ∧ i = .int .i64 (k : Int) ∧ Hid (IA wr w.heap.size n s) ∧ Hid (Below w.heap.size w wr) ∧ Hid (∀ q, q < k → s q = q)) (fun i _ => n - (intOf i).toNat)
  case atStart => exact ⟨0, fun _ => 0, Nat.zero_le _, rfl, hia1, hb1, fun q hq => absurd hq (Nat.not_lt_zero q)⟩
  case round =>
    obtain ⟨k, s, hk, rfl, hia, hbw, hid⟩ := hrel
    clear hia1 hb1
    by_cases hlt : k < n
    · have hc := hia.out.cell hlt
      have hf := hia.out.free k
      have HI2 : Hid (IA (wr.setCell ⟨w.heap.size, k, none⟩ (.int .i64 (k : Int))) w.heap.size n (put s k k)) := hia.out.set hlt k
      have HB2 : Hid (Below w.heap.size w (wr.setCell ⟨w.heap.size, k, none⟩ (.int .i64 (k : Int)))) := hbw.out.setCell (Nat.le_refl _) _
      have HID : Hid (∀ q, q < k + 1 → put s k k q = q) := fun q hq => by
        by_cases e : q = k
        · rw [e, put_same]
        · rw [put_other e]; exact hid.out q (by omega)
      clear hia hbw hid
      go_wp2
      go_roundw
      case rel => exact ⟨k + 1, put s k k, by omega, by go_num, HI2, HB2, HID⟩
      case measure => simp [intOf]; omega
    · obtain rfl : k = n := by omega
      have hsz := hbw.out.size
      have hl1 := hia.out.lt
      go_wp2_with (at_make; refine wpl_makeI rfl (.tmp 27) (.tmp 27) rfl k _ _ rfl rfl rfl rfl (by omega) ?_; intro w2 hia2 hb2)
      have HMS : Hid (Ms w w2 w.heap.size wr.heap.size k s (fun _ => 0)) := ⟨hbw.out.trans (hb2.out.mono hsz), hia.out.below hb2.out, hia2.out, Nat.le_refl _, hsz, by omega⟩
      have HBL : Hid (Blocks (fun r => nl (L r) (D r)) s 1 k) := fun c hc => by
        refine (blocks_id (fun r => nl (L r) (D r)) k c hc).congr fun q q1 q2 => ?_
        exact hid.out q (by omega)
      clear hia hbw hid hia2 hb2
      obtain ⟨wq, hwq⟩ : ∃ wq : World, wq = wr := ⟨_, rfl⟩
      rw [← hwq] at HMS ⊢
      clear hwq hl1 hsz
      go_loopw [5, 7, 8] (fun vs vt vw wr => ∃ (W gs gt : Nat) (s t : Nat → Nat), vs = .slice (some ⟨gs, 0, none⟩) k k ∧ vt = .slice (some ⟨gt, 0, none⟩) k k ∧ vw = .int .i64 (W : Int) ∧ 1 ≤ W ∧ W ≤ 2 * k + 1 ∧ Hid (Ms w wr gs gt k s t) ∧ Hid (Blocks (fun r => nl (L r) (D r)) s W k)) (fun _ _ vw _ => k - (intOf vw).toNat)
      case atStart => exact ⟨1, _, _, s, _, rfl, rfl, rfl, Nat.le_refl _, by omega, HMS, HBL⟩
      case round =>
        obtain ⟨W, gs, gt, s2, t2, rfl, rfl, rfl, hW1, hW2, hms, hbl⟩ := hrel
        clear HMS HBL
        by_cases hWk : W < k
        · obtain ⟨wp, hwp⟩ : ∃ wp : World, wp = wr := ⟨_, rfl⟩
          rw [← hwp] at hms ⊢
          clear hwp
          have tW : decide ((W : Int) < (k : Int)) = true := decide_eq_true (by omega)
          go_wp2
          go_loopw [9] (fun vl wr => ∃ (c lo : Nat) (t3 : Nat → Nat), vl = .int .i64 (lo : Int) ∧ lo < k + 2 * W ∧ Hid (lo = c * (2 * W)) ∧ Hid (Ms w wr gs gt k s2 t3) ∧ Hid (Pass (fun r => nl (L r) (D r)) t3 W k c)) (fun vl _ => k + 2 * W - (intOf vl).toNat)
          case atStart => exact ⟨0, 0, t2, rfl, by omega, by show 0 = 0 * (2 * W); omega, hms, pass_start _ _ _ _⟩
          case round =>
            obtain ⟨c, lo, t3, rfl, hlo1, hlo, hms3, hpass⟩ := hrel
            clear hms
            by_cases hlk : lo < k
            · have HRL : Hid (SRun (fun r => nl (L r) (D r)) s2 lo (min (lo + W) k)) := by have := hbl.out.left (c := c) (by rw [← hlo.out]; exact hlk); rw [← hlo.out] at this; exact this
              have HRR : Hid (SRun (fun r => nl (L r) (D r)) s2 (min (lo + W) k) (min (lo + 2 * W) k)) := by have := hbl.out.right (c := c); rw [← hlo.out] at this; exact this
              by_cases hq1 : lo + 2 * W ≤ k
              · have H := merge_any ao k cn A L C D w wr gs gt s2 t3 lo (lo + W) (lo + 2 * W) hn HN.out HL.out hms3.out (by omega) (by omega) (by omega) (by have := HRL.out; rwa [show min (lo + W) k = lo + W by omega] at this) (by have := HRR.out; rwa [show min (lo + W) k = lo + W by omega, show min (lo + 2 * W) k = lo + 2 * W by omega] at this)
                go_wp2_with fail
                refine H.mono ?_
                rintro e w3 ⟨rfl, hmo⟩
                obtain ⟨t4, hms4, hrun4, hout4⟩ := hmo
                have HP4 : Hid (Pass (fun r => nl (L r) (D r)) t4 W k (c + 1)) := by
                  refine hpass.out.step ?_ (fun q hq => hout4 q (Or.inl (by rw [hlo.out]; exact hq)))
                  rw [← hlo.out, show min (lo + 2 * W) k = lo + 2 * W by omega]; exact hrun4
                have HM4 : Hid (Ms w w3 gs gt k s2 t4) := hms4
                clear hms4 hrun4 hout4 H
                go_wp2
                go_roundw
                case rel => exact ⟨c + 1, lo + 2 * W, t4, by go_num, by omega, by show lo + 2 * W = (c + 1) * (2 * W); rw [Nat.add_mul, Nat.one_mul, ← hlo.out], HM4, HP4⟩
                case measure => simp [intOf]; omega
              · by_cases hq2 : lo + W ≤ k
                · have H := merge_any ao k cn A L C D w wr gs gt s2 t3 lo (lo + W) (k) hn HN.out HL.out hms3.out (by omega) (by omega) (by omega) (by have := HRL.out; rwa [show min (lo + W) k = lo + W by omega] at this) (by have := HRR.out; rwa [show min (lo + W) k = lo + W by omega, show min (lo + 2 * W) k = k by omega] at this)
                  go_wp2_with fail
                  refine H.mono ?_
                  rintro e w3 ⟨rfl, hmo⟩
                  obtain ⟨t4, hms4, hrun4, hout4⟩ := hmo
                  have HP4 : Hid (Pass (fun r => nl (L r) (D r)) t4 W k (c + 1)) := by
                    refine hpass.out.step ?_ (fun q hq => hout4 q (Or.inl (by rw [hlo.out]; exact hq)))
                    rw [← hlo.out, show min (lo + 2 * W) k = k by omega]; exact hrun4
                  have HM4 : Hid (Ms w w3 gs gt k s2 t4) := hms4
                  clear hms4 hrun4 hout4 H
                  go_wp2
                  go_roundw
                  case rel => exact ⟨c + 1, lo + 2 * W, t4, by go_num, by omega, by show lo + 2 * W = (c + 1) * (2 * W); rw [Nat.add_mul, Nat.one_mul, ← hlo.out], HM4, HP4⟩
                  case measure => simp [intOf]; omega
                · have H := merge_any ao k cn A L C D w wr gs gt s2 t3 lo (k) (k) hn HN.out HL.out hms3.out (by omega) (by omega) (by omega) (by have := HRL.out; rwa [show min (lo + W) k = k by omega] at this) (by have := HRR.out; rwa [show min (lo + W) k = k by omega, show min (lo + 2 * W) k = k by omega] at this)
                  go_wp2_with fail
                  refine H.mono ?_
                  rintro e w3 ⟨rfl, hmo⟩
                  obtain ⟨t4, hms4, hrun4, hout4⟩ := hmo
                  have HP4 : Hid (Pass (fun r => nl (L r) (D r)) t4 W k (c + 1)) := by
                    refine hpass.out.step ?_ (fun q hq => hout4 q (Or.inl (by rw [hlo.out]; exact hq)))
                    rw [← hlo.out, show min (lo + 2 * W) k = k by omega]; exact hrun4
                  have HM4 : Hid (Ms w w3 gs gt k s2 t4) := hms4
                  clear hms4 hrun4 hout4 H
                  go_wp2
                  go_roundw
                  case rel => exact ⟨c + 1, lo + 2 * W, t4, by go_num, by omega, by show lo + 2 * W = (c + 1) * (2 * W); rw [Nat.add_mul, Nat.one_mul, ← hlo.out], HM4, HP4⟩
                  case measure => simp [intOf]; omega
            · have HB2 : Hid (Blocks (fun r => nl (L r) (D r)) t3 (2 * W) k) := hpass.out.done (by rw [← hlo.out]; omega)
              have HM5 : Hid (Ms w wr gt gs k t3 s2) := ⟨hms3.out.below, hms3.out.dst, hms3.out.src, hms3.out.lt, hms3.out.ls, hms3.out.ne.symm⟩
              clear hpass hlo hms3 hbl
              go_wp2
              go_roundw
              case rel => exact ⟨2 * W, gt, gs, t3, s2, rfl, rfl, by go_num, by omega, by omega, HM5, HB2⟩
              case measure => simp [intOf]; omega
        · have tW : decide ((W : Int) < (k : Int)) = false := decide_eq_false (by omega)
          have HS : Hid (0 < k → SRun (fun r => nl (L r) (D r)) s2 0 k) := fun h0 => blocks_all hbl.out (by omega) h0
          clear hbl
          obtain ⟨wp, hwp⟩ : ∃ wp : World, wp = wr := ⟨_, rfl⟩
          rw [← hwp] at hms ⊢
          clear hwp
          go_wp2
          go_loopw [12, 13] (fun vb vk wr => ∃ (m : Nat) (b : Option Nat), vb = .int .i64 (optI b) ∧ vk = .int .i64 ((m + 1 : Nat) : Int) ∧ (m + 1 ≤ k ∨ (k = 0 ∧ m = 0)) ∧ Hid (Best (fun r => nl (L r) (D r)) s2 (m + 1) b) ∧ Hid (Ms w wr gs gt k s2 t2)) (fun _ vk _ => k - (intOf vk).toNat)
          case atStart => exact ⟨0, none, rfl, rfl, by omega, fun q q1 q2 => by omega, hms⟩
          case round =>
            obtain ⟨m, b, rfl, rfl, hm, hbest, hms2⟩ := hrel
            clear hms
            by_cases hmk : m + 1 < k
            · have S := HS.out (by omega)
              have hp0 := S.rng m (by omega) (by omega)
              have hr0 := S.rng (m + 1) (by omega) hmk
              clear S
              obtain ⟨p, hp⟩ : ∃ p, p = s2 m := ⟨_, rfl⟩
              obtain ⟨r, hr⟩ : ∃ r, r = s2 (m + 1) := ⟨_, rfl⟩
              rw [← hp] at hp0
              rw [← hr] at hr0
              have hcp : wr.cell? ⟨gs, m, none⟩ = some (.int .i64 (p : Int)) := by rw [hp]; exact hms2.out.src.cell (by omega)
              have hcr : wr.cell? ⟨gs, m + 1, none⟩ = some (.int .i64 (r : Int)) := by rw [hr]; exact hms2.out.src.cell hmk
              have x1 : (m : Int) < (k : Int) := by omega
              have x2 : (m : Int) + 1 < (k : Int) := by omega
              have x3 : (p : Int) < (k : Int) := by omega
              have x4 : (r : Int) < (k : Int) := by omega
              obtain ⟨b0, off, rfl, hcn⟩ := HN.out.row (by omega)
              have hnp : wr.cell? ⟨b0, off + p, none⟩ = some (.slice (A p) (L p) (C p)) := by rw [hms2.out.below.cell (World.block_lt_of_cell? _ _ (hcn p (by omega)))]; exact hcn p (by omega)
              have hnr : wr.cell? ⟨b0, off + r, none⟩ = some (.slice (A r) (L r) (C r)) := by rw [hms2.out.below.cell (World.block_lt_of_cell? _ _ (hcn r (by omega)))]; exact hcn r (by omega)
              have H := fun q => cmp_at HN.out HL.out hms2.out.below (show p < k by omega) (show r < k by omega) q
              obtain ⟨R, hR⟩ : ∃ R, R = lx (nl (L p) (D p)) (nl (L r) (D r)) := ⟨_, rfl⟩
              rw [← hR] at H
              have HP : Hid (p = s2 m) := hp
              have HR : Hid (r = s2 (m + 1)) := hr
              have HRv : Hid (R = lx (nl (L p) (D p)) (nl (L r) (D r))) := hR
              clear hcn hp hr hR hm
              by_cases hR0 : R = 0
              · have tR : (R == 0) = true := by rw [beq_iff_eq]; exact hR0
                have heq : nl (L (s2 m)) (D (s2 m)) = nl (L (s2 (m + 1))) (D (s2 (m + 1))) := by rw [← HP.out, ← HR.out]; exact lx_eq (by rw [← HRv.out]; exact hR0)
                have HEQ : Hid (nl (L (s2 m)) (D (s2 m)) = nl (L (s2 (m + 1))) (D (s2 (m + 1)))) := heq
                clear hR0 heq
                cases b with
                | none =>
                  have HB : Hid (Best (fun r => nl (L r) (D r)) s2 (m + 2) (some r)) := by rw [HR.out]; exact hbest.out.new HEQ.out (fun x hx => by cases hx)
                  rw [show optI none = -1 from rfl]
                  clear hbest
                  go_wp2
                  go_quiet ((go_at_call 14; exact Calls.quiet_of (H _)))
                  go_wp2
                  go_roundw
                  case rel => exact ⟨m + 1, some r, rfl, by go_num, Or.inl (by omega), HB, by first | exact hms2.out.drewN _ | exact hms2⟩
                  case measure => simp [intOf]; omega
                | some x =>
                  rw [show optI (some x) = (x : Int) from rfl]
                  by_cases hrx : r < x
                  · have HB : Hid (Best (fun r => nl (L r) (D r)) s2 (m + 2) (some r)) := by rw [HR.out]; exact hbest.out.new HEQ.out (fun y hy => by cases hy; rw [← HR.out]; exact hrx)
                    clear hbest
                    go_wp2
                    go_quiet ((go_at_call 14; exact Calls.quiet_of (H _)))
                    go_wp2
                    go_roundw
                    case rel => exact ⟨m + 1, some r, rfl, by go_num, Or.inl (by omega), HB, by first | exact hms2.out.drewN _ | exact hms2⟩
                    case measure => simp [intOf]; omega
                  · have HB : Hid (Best (fun r => nl (L r) (D r)) s2 (m + 2) (some x)) := hbest.out.old (by rw [← HR.out]; omega)
                    clear hbest
                    go_wp2
                    go_quiet ((go_at_call 14; exact Calls.quiet_of (H _)))
                    go_wp2
                    go_roundw
                    case rel => exact ⟨m + 1, some x, rfl, by go_num, Or.inl (by omega), HB, by first | exact hms2.out.drewN _ | exact hms2⟩
                    case measure => simp [intOf]; omega
              · have tR : (R == 0) = false := by rw [beq_eq_false_iff_ne]; exact hR0
                have HB : Hid (Best (fun r => nl (L r) (D r)) s2 (m + 2) b) := hbest.out.no (fun e => hR0 (by
                  rw [HRv.out, HP.out, HR.out]
                  show lx (nl (L (s2 m)) (D (s2 m))) (nl (L (s2 (m + 1))) (D (s2 (m + 1)))) = 0
                  rw [show nl (L (s2 m)) (D (s2 m)) = nl (L (s2 (m + 1))) (D (s2 (m + 1))) from e]; exact lx_self _))
                clear hR0 hbest
                go_wp2
                go_quiet ((go_at_call 14; exact Calls.quiet_of (H _)))
                go_wp2
                go_roundw
                case rel => exact ⟨m + 1, b, rfl, by go_num, Or.inl (by omega), HB, by first | exact hms2.out.drewN _ | exact hms2⟩
                case measure => simp [intOf]; omega
            · cases b with
              | none =>
                have HF : Hid (First (fun r => nl (L r) (D r)) k none) := by
                  by_cases h0 : 0 < k
                  · obtain rfl : k = m + 1 := by omega
                    exact hbest.out.first (HS.out h0)
                  · exact fun j hj => by omega
                rw [show optI none = -1 from rfl]
                clear hbest HS
                go_wp2
                go_ret2
                exact ⟨Or.inl ⟨rfl, HF.out⟩, hms2.out.below⟩
              | some x =>
                have hkm : k = m + 1 := by
                  rcases hm with h | ⟨h1, h2⟩
                  · omega
                  · obtain ⟨⟨q, q1, q2, _⟩, _⟩ := hbest.out; omega
                have HF : Hid (First (fun r => nl (L r) (D r)) k (some x)) := by
                  rw [hkm]; exact (show Best _ s2 (m + 1) (some x) from hbest.out).first (by rw [← hkm]; exact HS.out (by omega))
                rw [show optI (some x) = (x : Int) from rfl]
                clear hbest HS hkm
                go_wp2
                go_ret2
                exact ⟨Or.inr ⟨x, rfl, HF.out⟩, hms2.out.below⟩
end Go.Proofs.Qxb6603335a
