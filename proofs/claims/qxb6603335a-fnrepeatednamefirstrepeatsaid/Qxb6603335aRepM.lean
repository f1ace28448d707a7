import Derived.Test.Qxb6603335aRepS
namespace Go.Proofs.Qxb6603335a
open Go.RowKit Go.Maps

theorem law9 : Keyed Try.prog 9 := string_keyed Try.underlying9
theorem zero4 (w : World) : (zeroValue 4).run Try.prog w = .ok (.bool false) w := by kernel_rfl
theorem mkMap (w : World) (n : Int) : (Instr.makeMap 43 (some (.int .i64 n))).run Try.prog w = .ok (.map (some w.heap.size)) (w.alloc (.map #[] 0)) := by
  have e : Sem.run Try.prog (asInt (Value.int IntKind.i64 n)) w = .ok n w := rfl
  simp [Instr.makeMap, run_underlying Try.underlying43, e, Result.andThen]

theorem plain_bool_inv {v : Value} {z : DataW Unit × List MemPlace} (h : plainElem Try.prog 4 v = some z) : ∃ x, v = .bool x ∧ z = (.lit (.bool x), []) := by
  unfold plainElem at h
  rw [Try.underlying4] at h
  cases v <;> simp at h
  exact ⟨_, rfl, h.symm⟩

/-- 'seen[s]' in a map[string]bool of the call's own. -/
theorem wpl_look {w : World} {ops : Array Oper} {rest : List Oper} {o : Oper} {a : Act} {Q : Exit → Act → World → Prop}
    (hg : o.guard = none) (m x : Operand) (hop : o.op = Op.lookup 43 m x false) (B i : Nat) (Dm : DataW Unit) (hm : a.eval m = .map (some B)) (hown : w.ownsMap Try.prog 9 (plainElem Try.prog 4) B i Dm)
    (s : ByteArray) (hs : s.size ≤ maxLen) (hx : a.eval x = .string s) (v : Bool) (hat : Dm.atKey (.string s.data.toList) (.lit (.bool false)) = .lit (.bool v))
    (hK : wpList Try.prog ops Q rest (a.put o.dst (.bool v)) w) : wpList Try.prog ops Q (o :: rest) a w := by
  refine wpList_plain hg fun K' hK' => ?_
  obtain ⟨vv, ps, hrun, hv⟩ := hown.lookup law9 Try.underlying43 (zero4 w) (plainElem_bool Try.underlying4 false) (WideMaps.keyOf_string_mk Try.underlying9 hs)
  rw [hat] at hv
  obtain ⟨y, rfl, hy⟩ := plain_bool_inv hv
  simp only [Prod.mk.injEq, DataW.lit.injEq, Lit.bool.injEq] at hy
  obtain ⟨rfl, _⟩ := hy
  unfold Oper.wp
  simp [execOp, hop, hm, hx, hrun, Result.andThen]
  exact hK' _ _ hK

/-- Is s among the first i? -/
def inB (Nm : Nat → ByteArray) (i : Nat) (s : ByteArray) : Bool := (List.range i).any fun r => decide (Nm r = s)
theorem inB_yes {Nm : Nat → ByteArray} {i : Nat} {s : ByteArray} (h : inB Nm i s = true) : ∃ r, r < i ∧ Nm r = s := by
  unfold inB at h
  rw [List.any_eq_true] at h
  obtain ⟨r, h1, h2⟩ := h
  exact ⟨r, List.mem_range.1 h1, of_decide_eq_true h2⟩
theorem inB_mk {Nm : Nat → ByteArray} {i r : Nat} {s : ByteArray} (h1 : r < i) (h2 : Nm r = s) : inB Nm i s = true := by
  unfold inB
  rw [List.any_eq_true]
  exact ⟨r, List.mem_range.2 h1, decide_eq_true h2⟩
/-- The set behind i rounds: it holds just the names so far. -/
def Seen (Nm : Nat → ByteArray) (Dm : DataW Unit) (i : Nat) : Prop := IsMap Dm ∧ ∀ s : ByteArray, Dm.atKey (.string s.data.toList) (.lit (.bool false)) = .lit (.bool (inB Nm i s))
theorem seen_none (Nm : Nat → ByteArray) : Seen Nm (.map []) 0 := ⟨isMap_empty, fun _ => rfl⟩
theorem Seen.step {Nm : Nat → ByteArray} {Dm : DataW Unit} {i : Nat} (h : Seen Nm Dm i) : Seen Nm (Dm.put (.string (Nm i).data.toList) (.lit (.bool true))) (i + 1) := by
  refine ⟨h.1.put _ _, fun s => ?_⟩
  by_cases e : s = Nm i
  · rw [e, atKey_put_same h.1 (by simp [WideAt.IsKeyLit]), inB_mk (show i < i + 1 by omega) rfl]
  · rw [atKey_put_other (fun h => e (by
      injection h with h
      exact ByteArray.ext (Array.ext' h))), h.2 s]
    have : inB Nm (i + 1) s = inB Nm i s := by
      unfold inB
      rw [List.range_succ, List.any_append]
      simp [show ¬ Nm i = s from fun h => e h.symm]
    rw [this]

set_option maxHeartbeats 2000000 in
theorem repM (g n : Nat) (A : Nat → Option Addr) (L C : Nat → Nat) (D : Nat → Nat → Int) (w : World) (hn8 : 8 < n) (hn : n ≤ 65536) (hM : Mem w g n A L C D) (hR : ∀ r, r < n → Rng (L r) (D r)) (hL : ∀ r, r < n → L r ≤ 1048576) :
    Calls Try.prog 12 #[.slice (some ⟨g, 0, none⟩) n n] w fun e w' => RE (fun r => nl (L r) (D r)) n e ∧ Below w.heap.size w w' := by
  have HM : Hid (Mem w g n A L C D) := hM
  have HR : Hid (∀ r, r < n → Rng (L r) (D r)) := hR
  have HL : Hid (∀ r, r < n → L r ≤ 1048576) := hL
  clear hM hR hL
  have t8 : decide ((n : Int) ≤ 8) = false := decide_eq_false (by omega)
  have hmk := mkMap
  go_enter Try.func12, Try.ntmps12
  go_wp2
  clear hmk
  have HB0 : Hid (Below w.heap.size w (w.alloc (.map #[] 0))) := (Below.refl _ _).alloc (Nat.le_refl _) _
  have HO0 : Hid ((w.alloc (.map #[] 0)).ownsMap Try.prog 9 (plainElem (H := Unit) Try.prog 4) w.heap.size 0 (.map [])) := World.ownsMap_made _ _ _ _
  go_loopw [44] (fun vi wr => ∃ (i : Nat) (Dm : DataW Unit), i ≤ n ∧ vi = .int .i64 (i : Int) ∧ Hid (∀ j, j < i → ¬ isRep (fun r => nl (L r) (D r)) j) ∧ Hid (Below w.heap.size w wr) ∧ Hid (wr.ownsMap Try.prog 9 (plainElem Try.prog 4) w.heap.size i Dm) ∧ Hid (Seen (fun r => strOfNums (nl (L r) (D r))) Dm i)) (fun vi _ => n - (intOf vi).toNat)
  case atStart => exact ⟨0, .map [], Nat.zero_le _, rfl, fun j hj => absurd hj (Nat.not_lt_zero j), HB0, HO0, seen_none _⟩
  case round =>
    obtain ⟨i, Dm, hi, rfl, hno, hbw, hown, hseen⟩ := hrel
    clear HB0 HO0
    by_cases hlt : i < n
    · have hmw := HM.out.below hbw.out
      obtain ⟨c0, c1, c2⟩ := hmw.cells hlt
      have hsz := hbw.out.size
      have SI := fun o => (hmw.nam i hlt).below ((Below.refl _ wr).alloc (Nat.le_refl _) o)
      have hconv := fun o => conv_any (wr.alloc o) (SI o)
      have HBO : Hid (∀ o, Below w.heap.size w (wr.alloc o)) := fun o => hbw.out.alloc hsz o
      obtain ⟨X, hX⟩ : ∃ X, X = strOfNums (nl (L i) (D i)) := ⟨_, rfl⟩
      simp only [← hX] at hconv
      have hXs : X.size ≤ maxLen := by rw [hX, strOfNums_size, nl_length]; have := HL.out i hlt; unfold maxLen; omega
      obtain ⟨v, hv⟩ : ∃ v, v = inB (fun r => strOfNums (nl (L r) (D r))) i X := ⟨_, rfl⟩
      have hat := hseen.out.2 X
      simp only [← hv] at hat
      have HV : Hid (v = inB (fun r => strOfNums (nl (L r) (D r))) i X) := hv
      have HX : Hid (X = strOfNums (nl (L i) (D i))) := hX
      have HOW : Hid (∀ o, (wr.alloc o).ownsMap Try.prog 9 (plainElem Try.prog 4) w.heap.size i Dm) := fun o => hown.out.alloc o
      have HAT : Hid (Dm.atKey (.string X.data.toList) (.lit (.bool false)) = .lit (.bool v)) := hat
      have hil : i < maxLen := by unfold maxLen; omega
      have HIL : Hid (i < maxLen) := hil
      have HXS : Hid (X.size ≤ maxLen) := hXs
      clear SI hmw hv hX hat hown hil hXs hbw
      cases v with
      | true =>
        have HF : Hid (First (fun r => nl (L r) (D r)) n (some i)) := by
          obtain ⟨r, hr, e⟩ := inB_yes HV.out.symm
          exact ⟨hlt, ⟨r, hr, str_inj (HR.out r (by omega)) (HR.out i hlt) (by rw [← HX.out]; exact e)⟩, hno.out⟩
        clear hno hseen
        go_wp2_with (at_lookup; refine wpl_look rfl (.tmp 48) (.tmp 51) rfl w.heap.size i Dm rfl (HOW.out _) X HXS.out rfl true HAT.out ?_)
        go_ret2
        exact ⟨Or.inr ⟨i, by rw [HX.out]; rfl, HF.out⟩, HBO.out _⟩
      | false =>
        have HNO : Hid (∀ q, q < i + 1 → ¬ isRep (fun r => nl (L r) (D r)) q) := fun q hq => by
          rcases Nat.lt_or_ge q i with h | h
          · exact hno.out q h
          · obtain rfl : q = i := by omega
            rintro ⟨r, hr, e⟩
            have := HV.out
            rw [inB_mk (Nm := fun r => strOfNums (nl (L r) (D r))) hr (by rw [HX.out]; exact congrArg strOfNums e)] at this
            cases this
        have HSE : Hid (Seen (fun r => strOfNums (nl (L r) (D r))) (Dm.put (.string X.data.toList) (.lit (.bool true))) (i + 1)) := by rw [HX.out]; exact hseen.out.step
        clear hno hseen
        go_wp2_with (first | (at_lookup; refine wpl_look rfl (.tmp 48) (.tmp 51) rfl w.heap.size i Dm rfl (HOW.out _) X HXS.out rfl false HAT.out ?_) | (at_mapUpdate; refine wpList_mapUpdate_own (H := Unit) _ rfl (.tmp 56) (.tmp 59) (.const (.bool true)) 43 rfl 9 4 law9 Try.underlying43 (plainElem Try.prog 4) w.heap.size i Dm rfl (HOW.out _) HIL.out (.string X) (.bool true) (.string X.data.toList) rfl rfl (WideMaps.keyOf_string_mk Try.underlying9 HXS.out) (.lit (.bool true)) [] (plainElem_bool Try.underlying4 true) ?_; intro w1 hown1 hgrow1; have HO1 : Hid (w1.ownsMap Try.prog 9 (plainElem Try.prog 4) w.heap.size (i + 1) (Dm.put (.string X.data.toList) (.lit (.bool true)))) := hown1; have HB1 : Hid (Below w.heap.size w w1) := (HBO.out _).grown hgrow1 (by simp; omega) (fun j hj => by cases hj; exact Nat.le_refl _); clear hown1 hgrow1))
        go_roundw
        case rel => exact ⟨i + 1, _, by omega, by go_num, HNO, HB1, HO1, HSE⟩
        case measure => simp [intOf]; omega
    · have HF : Hid (First (fun r => nl (L r) (D r)) n none) := fun j hj => hno.out j (by omega)
      clear hno hown hseen
      go_wp2
      go_ret2
      exact ⟨Or.inl ⟨rfl, HF.out⟩, hbw.out⟩
end Go.Proofs.Qxb6603335a
