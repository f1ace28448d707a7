import Derived.Test.Qxb6603335aCmp
namespace Go.Proofs.Qxb6603335a
open Go.RowKit

/-- A row of ints of the call's own. -/
def IA (w : World) (g n : Nat) (s : Nat → Nat) : Prop := ∃ cur : List Value, w.heap[g]? = some (.cells cur.toArray 3 (0, 0)) ∧ cur.length = n ∧ ∀ k, k < n → cur[k]? = some (.int .i64 (s k : Int))
theorem IA.cell {w : World} {g n : Nat} {s : Nat → Nat} (h : IA w g n s) {k : Nat} (hk : k < n) : w.cell? ⟨g, k, none⟩ = some (.int .i64 (s k : Int)) := by
  obtain ⟨cur, h1, _, h3⟩ := h; rw [row_cell h1]; exact h3 k hk
theorem IA.free {w : World} {g n : Nat} {s : Nat → Nat} (h : IA w g n s) (k : Nat) : w.frozen? ⟨g, k, none⟩ = false := by
  obtain ⟨cur, h1, _⟩ := h; exact row_free h1 k
theorem IA.lt {w : World} {g n : Nat} {s : Nat → Nat} (h : IA w g n s) : g < w.heap.size := by obtain ⟨cur, h1, _⟩ := h; exact lt_of_block h1
theorem IA.set {w : World} {g n : Nat} {s : Nat → Nat} (h : IA w g n s) {k : Nat} (hk : k < n) (v : Nat) : IA (w.setCell ⟨g, k, none⟩ (.int .i64 (v : Int))) g n (put s k v) := by
  obtain ⟨cur, h1, h2, h3⟩ := h
  refine ⟨cur.set k (.int .i64 (v : Int)), row_setCell h1, by simpa using h2, fun q hq => ?_⟩
  by_cases e : q = k
  · subst e; rw [put_same]; simp [List.getElem?_set]; omega
  · rw [List.getElem?_set_ne (by omega), put_other e]; exact h3 q hq
theorem IA.other {w : World} {g n : Nat} {s : Nat → Nat} (h : IA w g n s) {p : Addr} (hp : g ≠ p.block) (v : Value) : IA (w.setCell p v) g n s := by
  obtain ⟨cur, h1, h2, h3⟩ := h
  exact ⟨cur, by rw [Below.heap_setCell _ _ _ _ hp]; exact h1, h2, h3⟩
theorem IA.drewN {w : World} {g n : Nat} {s : Nat → Nat} (h : IA w g n s) (q : Nat) : IA (w.drewN q) g n s := h
theorem IA.below {w w1 : World} {g n : Nat} {s : Nat → Nat} (h : IA w g n s) (hb : Below w.heap.size w w1) : IA w1 g n s := by
  have hlt := h.lt
  obtain ⟨cur, h1, h2, h3⟩ := h
  exact ⟨cur, by rw [hb.block g hlt]; exact h1, h2, h3⟩

/-- What stands while the places are sorted: the names as they lay in w0; src and dst. -/
structure Ms (w0 wr : World) (gs gt n : Nat) (s t : Nat → Nat) : Prop where
  below : Below w0.heap.size w0 wr
  src : IA wr gs n s
  dst : IA wr gt n t
  ls : w0.heap.size ≤ gs
  lt : w0.heap.size ≤ gt
  ne : gs ≠ gt
theorem Ms.drewN {w0 wr : World} {gs gt n : Nat} {s t : Nat → Nat} (h : Ms w0 wr gs gt n s t) (q : Nat) : Ms w0 (wr.drewN q) gs gt n s t := ⟨below_drewN h.below q, h.src, h.dst, h.ls, h.lt, h.ne⟩
theorem Ms.put {w0 wr : World} {gs gt n : Nat} {s t : Nat → Nat} (h : Ms w0 wr gs gt n s t) {k : Nat} (hk : k < n) (v : Nat) : Ms w0 (wr.setCell ⟨gt, k, none⟩ (.int .i64 (v : Int))) gs gt n s (put t k v) :=
  ⟨h.below.setCell h.lt _, h.src.other h.ne _, h.dst.set hk v, h.ls, h.lt, h.ne⟩

/-- What mergeRuns leaves. -/
def MergeOut (N : Nat → List Int) (w0 w' : World) (gs gt n : Nat) (s t0 : Nat → Nat) (lo hi : Nat) : Prop :=
  ∃ t, Ms w0 w' gs gt n s t ∧ SRun N t lo hi ∧ ∀ q, q < lo ∨ hi ≤ q → t q = t0 q

theorem cmp_at {w0 wr : World} {ao : Option Addr} {n : Nat} {A : Nat → Option Addr} {L C : Nat → Nat} {D : Nat → Nat → Int} (hN : Nm w0 ao n A L C D) (hL : ∀ r, r < n → L r ≤ 1048576) (hb : Below w0.heap.size w0 wr) {p r : Nat} (hp : p < n) (hr : r < n) (m : Nat) :
    Calls Try.prog 14 #[.slice (A p) (L p) (C p), .slice (A r) (L r) (C r)] (wr.drewN m) fun e w' => e = .returned (.int .i64 (lx (nl (L p) (D p)) (nl (L r) (D r)))) ∧ ∃ q, w' = (wr.drewN m).drewN q :=
  compare_any _ _ _ _ _ _ _ _ _ (hL p hp) (hL r hr) ((hN.nam p hp).below (below_drewN hb m)) ((hN.nam r hr).below (below_drewN hb m))

set_option maxHeartbeats 4000000 in
set_option maxRecDepth 10000 in
theorem merge_any (ao : Option Addr) (n cn : Nat) (A : Nat → Option Addr) (L C : Nat → Nat) (D : Nat → Nat → Int) (w0 w : World) (gs gt : Nat) (s t0 : Nat → Nat) (lo mid hi : Nat) (hn : n ≤ 65536)
    (hN : Nm w0 ao n A L C D) (hL : ∀ r, r < n → L r ≤ 1048576) (hms : Ms w0 w gs gt n s t0) (h1 : lo ≤ mid) (h2 : mid ≤ hi) (h3 : hi ≤ n)
    (RL : SRun (fun r => nl (L r) (D r)) s lo mid) (RR : SRun (fun r => nl (L r) (D r)) s mid hi) :
    Calls Try.prog 13 #[.slice ao n cn, .slice (some ⟨gs, 0, none⟩) n n, .slice (some ⟨gt, 0, none⟩) n n, .int .i64 (lo : Int), .int .i64 (mid : Int), .int .i64 (hi : Int)] w
      fun e w' => e = .returned (.tuple #[]) ∧ MergeOut (fun r => nl (L r) (D r)) w0 w' gs gt n s t0 lo hi := by
  have HN : Hid (Nm w0 ao n A L C D) := hN
  have HL : Hid (∀ r, r < n → L r ≤ 1048576) := hL
  have HM : Hid (Ms w0 w gs gt n s t0) := hms
  have HRL : Hid (SRun (fun r => nl (L r) (D r)) s lo mid) := RL
  have HRR : Hid (SRun (fun r => nl (L r) (D r)) s mid hi) := RR
  clear hN hL hms RL RR
  go_enter Try.func13, Try.ntmps13
  go_wp2
  go_loopw [12, 13, 14] (fun vi vj vk wr => ∃ (i j k : Nat) (t : Nat → Nat), vi = .int .i64 (i : Int) ∧ vj = .int .i64 (j : Int) ∧ vk = .int .i64 (k : Int) ∧ k ≤ hi ∧ Hid (Mg (fun r => nl (L r) (D r)) s t0 t lo mid hi i j k) ∧ Hid (Ms w0 wr gs gt n s t)) (fun _ _ vk _ => hi - (intOf vk).toNat)
  case atStart => exact ⟨lo, mid, lo, t0, rfl, rfl, rfl, by omega, Mg.start h1 h2, HM⟩
  case round =>
    obtain ⟨i, j, k, t, rfl, rfl, rfl, hk, hmg, hms⟩ := hrel
    clear HM
    by_cases hlt : k < hi
    · have g1 := hmg.out.lm
      have g2 := hmg.out.im
      have g3 := hmg.out.mj
      have g4 := hmg.out.jh
      have g5 : k + mid = i + j := by have := hmg.out.cnt; omega
      obtain ⟨⟨v0, hv0⟩, hf0⟩ : (∃ v, wr.cell? ⟨gt, k, none⟩ = some v) ∧ wr.frozen? ⟨gt, k, none⟩ = false := ⟨⟨_, hms.out.dst.cell (by omega)⟩, hms.out.dst.free k⟩
      have kn : (k : Int) < (n : Int) := by omega
      by_cases him : i < mid
      · have hsi := HRL.out.rng i g1 him
        obtain ⟨p, hp⟩ : ∃ p, p = s i := ⟨_, rfl⟩
        rw [← hp] at hsi
        have hci : wr.cell? ⟨gs, i, none⟩ = some (.int .i64 (p : Int)) := by rw [hp]; exact hms.out.src.cell (by omega)
        have i1 : (i : Int) < (mid : Int) := by omega
        have i2 : (i : Int) < (n : Int) := by omega
        have ti : decide ((i : Int) < (mid : Int)) = true := decide_eq_true i1
        by_cases hjh : j < hi
        · have hsj := HRR.out.rng j g3 hjh
          obtain ⟨r, hr⟩ : ∃ r, r = s j := ⟨_, rfl⟩
          rw [← hr] at hsj
          have hcj : wr.cell? ⟨gs, j, none⟩ = some (.int .i64 (r : Int)) := by rw [hr]; exact hms.out.src.cell (by omega)
          have j1 : (j : Int) < (hi : Int) := by omega
          have j2 : (j : Int) < (n : Int) := by omega
          have p1 : (p : Int) < (n : Int) := by omega
          have r1 : (r : Int) < (n : Int) := by omega
          have tj : decide ((hi : Int) ≤ (j : Int)) = false := decide_eq_false (by omega)
          obtain ⟨b, off, rfl, hcn⟩ := HN.out.row (by omega)
          have hcp : wr.cell? ⟨b, off + p, none⟩ = some (.slice (A p) (L p) (C p)) := by rw [hms.out.below.cell (World.block_lt_of_cell? _ _ (hcn p (by omega)))]; exact hcn p (by omega)
          have hcr : wr.cell? ⟨b, off + r, none⟩ = some (.slice (A r) (L r) (C r)) := by rw [hms.out.below.cell (World.block_lt_of_cell? _ _ (hcn r (by omega)))]; exact hcn r (by omega)
          have H := fun m => cmp_at HN.out HL.out hms.out.below (show p < n by omega) (show r < n by omega) m
          obtain ⟨R, hR⟩ : ∃ R, R = lx (nl (L p) (D p)) (nl (L r) (D r)) := ⟨_, rfl⟩
          rw [← hR] at H
          have HP : Hid (p = s i) := hp
          have HR : Hid (r = s j) := hr
          have HRv : Hid (R = lx (nl (L p) (D p)) (nl (L r) (D r))) := hR
          clear hcn hp hr hR
          by_cases hle : R ≤ 0
          · have tR : decide (R ≤ 0) = true := decide_eq_true hle
            have HMG : Hid (Mg (fun r => nl (L r) (D r)) s t0 (put t k p) lo mid hi (i + 1) j (k + 1)) := by
              rw [HP.out]
              refine hmg.out.left HRL.out HRR.out him (fun _ => ?_)
              show lx (nl (L (s i)) (D (s i))) (nl (L (s j)) (D (s j))) ≤ 0
              rw [← HP.out, ← HR.out, ← HRv.out]; exact hle
            go_wp2
            go_quiet ((go_at_call 14; exact Calls.quiet_of (H _)))
            go_wp2
            go_roundw
            case rel => exact ⟨i + 1, j, k + 1, put t k p, by go_num, by go_num, by go_num, by omega, HMG, by first | exact (hms.out.drewN _).put (by omega) _ | exact (hms.out.put (by omega) _).drewN _⟩
            case measure => simp [intOf]; omega
          · have tR : decide (R ≤ 0) = false := decide_eq_false hle
            have HMG : Hid (Mg (fun r => nl (L r) (D r)) s t0 (put t k r) lo mid hi i (j + 1) (k + 1)) := by
              rw [HR.out]
              refine hmg.out.right HRR.out hjh (fun _ => ?_)
              show 0 < lx (nl (L (s i)) (D (s i))) (nl (L (s j)) (D (s j)))
              rw [← HP.out, ← HR.out, ← HRv.out]; omega
            go_wp2
            go_quiet ((go_at_call 14; exact Calls.quiet_of (H _)))
            go_wp2
            go_roundw
            case rel => exact ⟨i, j + 1, k + 1, put t k r, by go_num, by go_num, by go_num, by omega, HMG, by first | exact (hms.out.drewN _).put (by omega) _ | exact (hms.out.put (by omega) _).drewN _⟩
            case measure => simp [intOf]; omega
        · have tj : decide ((hi : Int) ≤ (j : Int)) = true := decide_eq_true (by omega)
          have HMG : Hid (Mg (fun r => nl (L r) (D r)) s t0 (put t k p) lo mid hi (i + 1) j (k + 1)) := by
            rw [hp]
            exact hmg.out.left HRL.out HRR.out him (fun h => absurd h hjh)
          clear hp
          go_wp2
          go_quiet (fail)
          go_wp2
          go_roundw
          case rel => exact ⟨i + 1, j, k + 1, put t k p, by go_num, by go_num, by go_num, by omega, HMG, by first | exact (hms.out.drewN _).put (by omega) _ | exact (hms.out.put (by omega) _).drewN _⟩
          case measure => simp [intOf]; omega
      · have hjh : j < hi := by omega
        have hsj := HRR.out.rng j g3 hjh
        obtain ⟨r, hr⟩ : ∃ r, r = s j := ⟨_, rfl⟩
        rw [← hr] at hsj
        have hcj : wr.cell? ⟨gs, j, none⟩ = some (.int .i64 (r : Int)) := by rw [hr]; exact hms.out.src.cell (by omega)
        have j2 : (j : Int) < (n : Int) := by omega
        have ti : decide ((i : Int) < (mid : Int)) = false := decide_eq_false (by omega)
        have HMG : Hid (Mg (fun r => nl (L r) (D r)) s t0 (put t k r) lo mid hi i (j + 1) (k + 1)) := by
          rw [hr]
          exact hmg.out.right HRR.out hjh (fun h => absurd h him)
        clear hr
        go_wp2
        go_quiet (fail)
        go_wp2
        go_roundw
        case rel => exact ⟨i, j + 1, k + 1, put t k r, by go_num, by go_num, by go_num, by omega, HMG, by first | exact (hms.out.drewN _).put (by omega) _ | exact (hms.out.put (by omega) _).drewN _⟩
        case measure => simp [intOf]; omega
    · obtain rfl : k = hi := by omega
      have HO : Hid (MergeOut (fun r => nl (L r) (D r)) w0 wr gs gt n s t0 lo k) := ⟨t, hms.out, hmg.out.done HRL.out HRR.out, hmg.out.out⟩
      clear hmg hms
      go_wp2
      go_end0
      exact ⟨rfl, HO.out⟩
end Go.Proofs.Qxb6603335a
